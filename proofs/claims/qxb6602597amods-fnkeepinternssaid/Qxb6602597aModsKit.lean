import Derived.Test.Qxb6602597aModsRows
import Derived.WalkKit
import Derived.ProofKit
import Derived.OpenShut
import Derived.ShutString
import Derived.ChangeOld
import Derived.Below
import Derived.WalkSpells
import Derived.WalkSmall
import Derived.Deep.QuietTactic
import Derived.BigQuiet
import Derived.Maps.OwnSet
import Derived.Maps.StringElems
import Derived.Laws.BytesArg
namespace Go.Proofs.Qxb6602597aMods
open Go.ChangeShapes Go.WideShapes Go.ChangeAt Go.RowKit
set_option linter.unusedVariables false
set_option linter.unusedSimpArgs false

theorem hid {p : Prop} (h : p) : Hid p := h

theorem Trym.info5 : (Trym.prog.info? 5).map (fun i => (i.zero, i.size, i.bytes)) = some (some (.int .u8 0), 1, 1) := by kernel_rfl
theorem Trym.info9 : (Trym.prog.info? 9).map (fun i => (i.zero, i.size, i.bytes)) = some (some (.string ByteArray.empty), 1, 16) := by kernel_rfl

/-- What the walk is told of a slice that came in: its elements, each through mk. -/
def IsRow {α : Type} (mk : α → Value) (z : α) (w : World) (a : Option Addr) (len cap : Nat) (l : List α) : Prop :=
  l.length = len ∧ ((a = none ∧ len = 0 ∧ cap = 0) ∨
  ∃ x, a = some x ∧ len ≤ cap ∧ cap ≤ maxLen ∧ ∀ i, i < len → w.cell? (x.add i) = some (mk (l.getD i z)))

/-- The slice v holds the elements l (nil and empty alike). -/
def Rd {α : Type} (mk : α → Value) (z : α) (w : World) (v : Value) (l : List α) : Prop :=
  (v = .slice none 0 0 ∧ l = []) ∨
  ∃ b o cap, v = .slice (some ⟨b, o, none⟩) l.length cap ∧ l.length ≤ cap ∧ ∀ i, i < l.length → w.cell? ⟨b, o + i, none⟩ = some (mk (l.getD i z))

section
variable {α : Type} {mk : α → Value} {z : α}

/-- The list with its first k elements in place, the rest zero. -/
def part (mk : α → Value) (z : α) (l : List α) (k : Nat) : List Value := (l.take k).map mk ++ List.replicate (l.length - k) (mk z)

theorem part_zero (l : List α) : part mk z l 0 = List.replicate l.length (mk z) := by simp [part]
theorem part_all (l : List α) : part mk z l l.length = l.map mk := by simp [part]
theorem part_step (l : List α) (k : Nat) (h : k < l.length) : (part mk z l k).set k (mk (l.getD k z)) = part mk z l (k + 1) := by
  have e1 : l.take (k + 1) = l.take k ++ [l.getD k z] := by
    rw [List.take_succ_eq_append_getElem h]; simp [List.getD, h]
  have e2 : l.length - k = (l.length - (k + 1)) + 1 := by omega
  unfold part
  rw [e1, e2, List.replicate_succ]
  have hl : ((l.take k).map mk).length = k := by simp; omega
  rw [List.set_append_right _ _ (by omega), hl, Nat.sub_self]
  simp
theorem part_get (l : List α) (k : Nat) (h : k < l.length) : (part mk z l k)[k]? = some (mk z) := by
  have hl : ((l.take k).map mk).length = k := by simp; omega
  unfold part
  rw [List.getElem?_append_right (by omega), hl, Nat.sub_self, List.getElem?_replicate, if_pos (by omega)]

theorem IsRow.later {w w' : World} {a : Option Addr} {len cap : Nat} {l : List α} (h : IsRow mk z w a len cap l) (hb : Below w.heap.size w w') : IsRow mk z w' a len cap l := by
  refine ⟨h.1, ?_⟩
  rcases h.2 with h | ⟨x, h1, h2, h3, h5⟩
  · exact .inl h
  · refine .inr ⟨x, h1, h2, h3, fun i hi => ?_⟩
    have := h5 i hi
    rw [hb.cell (World.block_lt_of_cell? w _ this)]
    exact this
theorem IsRow.max {w : World} {a : Option Addr} {len cap : Nat} {l : List α} (h : IsRow mk z w a len cap l) : len ≤ maxLen := by
  rcases h.2 with ⟨_, rfl, _⟩ | ⟨x, _, h2, h3, _⟩
  · exact Nat.zero_le _
  · omega
theorem IsRow.at {w : World} {a : Option Addr} {len cap : Nat} {l : List α} (h : IsRow mk z w a len cap l) {i : Nat} (hi : i < len) : ∃ b o, a = some ⟨b, o, none⟩ ∧ w.cell? ⟨b, o + i, none⟩ = some (mk (l.getD i z)) := by
  rcases h.2 with ⟨_, rfl, _⟩ | ⟨x, rfl, h2, h3, h5⟩
  · omega
  · obtain ⟨b, off, spot⟩ := x
    have h0 := h5 0 (by omega)
    have hs : spot = none := by simpa [Addr.add] using World.cell?_spot h0
    subst hs
    have hi' := h5 i hi
    rw [Addr.add_lit] at hi'
    exact ⟨b, off, rfl, hi'⟩

theorem Rd.later {w w' : World} {v : Value} {l : List α} (h : Rd mk z w v l) (hb : Below w.heap.size w w') : Rd mk z w' v l := by
  rcases h with h | ⟨b, o, cap, hv, hl, hc⟩
  · exact .inl h
  · refine .inr ⟨b, o, cap, hv, hl, fun i hi => ?_⟩
    have := hc i hi
    rw [hb.cell (World.block_lt_of_cell? w _ this)]
    exact this
theorem Rd.of_own {w : World} {B e : Nat} {v : Value} {n : Nat} {l : List α} (h : w.ownsRow B e 1 v n (l.map mk)) : Rd mk z w v l := by
  have h1 := h.1
  have hn : n = l.length := by simpa using h1.symm
  rcases h.2 with ⟨rfl, rfl⟩ | ⟨g, cap, cur, rfl, _, _, hnc, _⟩
  · left; exact ⟨rfl, List.eq_nil_of_length_eq_zero hn.symm⟩
  · right
    refine ⟨g, 0, cap, by rw [hn], by omega, fun i hi => ?_⟩
    rw [Nat.zero_add, h.cellAt i (by omega)]
    simp [List.getD, hi]
theorem Rd.len {w : World} {a : Option Addr} {n c : Nat} {l : List α} (h : Rd mk z w (.slice a n c) l) : n = l.length := by
  rcases h with ⟨h, rfl⟩ | ⟨b, o, cap, h, _⟩
  · injection h
  · injection h with _ h2
theorem Rd.at {w : World} {a : Option Addr} {n c : Nat} {l : List α} (h : Rd mk z w (.slice a n c) l) {i : Nat} (hi : i < n) : ∃ b o, a = some ⟨b, o, none⟩ ∧ w.cell? ⟨b, o + i, none⟩ = some (mk (l.getD i z)) := by
  have hn := h.len
  rcases h with ⟨h, rfl⟩ | ⟨b, o, cap, h, _, hc⟩
  · simp at hn; omega
  · injection h with h1
    exact ⟨b, o, h1, hc i (by omega)⟩
theorem own_full {w : World} {g e : Nat} {xs : List Value} {l : List α} (h : xs = l.map mk) (ho : w.ownsRow g e 1 (.slice (some ⟨g, 0, none⟩) l.length l.length) l.length xs) :
    w.ownsRow g e 1 (.slice (some ⟨g, 0, none⟩) l.length l.length) l.length (l.map mk) := h ▸ ho
end

set_option maxHeartbeats 400000 in
theorem copyB_nil (w : World) :
    Calls Trym.prog 13 #[.slice none 0 0] w fun e w' => e = .returned (.slice none 0 0) ∧ w' = w := by
  have hnil := fun (W : World) (a : Option Addr) (n c n' c' : Nat) => Lib.run_eql_slice_nil (P := Trym.prog) W 26 _ a n c n' c' Trym.underlying26
  go_enter Trym.func13, Trym.ntmps13
  go_wp2
  go_ret
  exact ⟨rfl, rfl⟩

set_option maxHeartbeats 800000 in
theorem copyB_empty (x : Addr) (cap : Nat) (w : World) :
    Calls Trym.prog 13 #[.slice (some x) 0 cap] w fun e w' => e = .returned (.slice (some ⟨w.heap.size, 0, none⟩) 0 0) ∧
      w'.ownsRow w.heap.size 5 1 (.slice (some ⟨w.heap.size, 0, none⟩) 0 0) 0 [] ∧ Below w.heap.size w w' := by
  have hnil := fun (W : World) (a : Option Addr) (n c n' c' : Nat) => Lib.run_eql_slice_nil (P := Trym.prog) W 26 _ a n c n' c' Trym.underlying26
  obtain ⟨i0, hi, hz0, hz1, hz2⟩ := info_parts Trym.info5
  go_enter Trym.func13, Trym.ntmps13
  go_wp2_with (at_make; refine wpList_make_full _ rfl _ _ 26 rfl w.heap.size 5 i0 (Value.int .u8 0) 1 Trym.underlying26 hi hz0 hz1 _ _ _ _ 0 rfl rfl rfl rfl ?b2 ?b3 (Nat.le_refl _) ?_)
  case b2 => omega
  case b3 => unfold maxLen; omega
  intro w0 hown0 hgrow0
  have e0 : (madeCells #[(Value.int .u8 0)] 0).toList = [] := by simp [madeCells]
  rw [e0] at hown0
  go_wp2
  refine wp_loop_rounds 1 ?_
  rw [rounds_succ]
  go_wp2
  go_ret
  exact ⟨rfl, hown0, (Below.refl _ _).grown hgrow0 (Nat.le_refl _) (fun k h => by cases h)⟩

set_option maxHeartbeats 800000 in
theorem copyB_some (b off : Nat) (l : List Int) (cap : Nat) (w : World) (hlen : l.length ≤ 1048576) (hb : b < w.heap.size)
    (hc : ∀ i, i < l.length → w.cell? ⟨b, off + i, none⟩ = some (Value.int .u8 (l.getD i 0))) :
    Calls Trym.prog 13 #[.slice (some ⟨b, off, none⟩) l.length cap] w fun e w' => e = .returned (.slice (some ⟨w.heap.size, 0, none⟩) l.length l.length) ∧
      w'.ownsRow w.heap.size 5 1 (.slice (some ⟨w.heap.size, 0, none⟩) l.length l.length) l.length (l.map (Value.int .u8)) ∧ Below w.heap.size w w' := by
  have hnil := fun (W : World) (a : Option Addr) (n c n' c' : Nat) => Lib.run_eql_slice_nil (P := Trym.prog) W 26 _ a n c n' c' Trym.underlying26
  obtain ⟨i0, hi, hz0, hz1, hz2⟩ := info_parts Trym.info5
  go_enter Trym.func13, Trym.ntmps13
  go_wp2_with (at_make; refine wpList_make_full _ rfl _ _ 26 rfl w.heap.size 5 i0 (Value.int .u8 0) 1 Trym.underlying26 hi hz0 hz1 _ _ _ _ l.length rfl rfl rfl rfl ?b2 ?b3 (Nat.le_refl _) ?_)
  case b2 => rw [hz2]; omega
  case b3 => unfold maxLen; omega
  intro w0 hown0 hgrow0
  have e0 : (madeCells #[(Value.int .u8 0)] l.length).toList = part (Value.int .u8) 0 l 0 := by
    rw [part_zero]; exact toList_madeCells_one _ _
  rw [e0] at hown0
  go_wp2
  go_loopw [4] (fun i wr => ∃ k : Nat, k ≤ l.length ∧ i = .int .i64 k ∧ wr.ownsRow w.heap.size 5 1 (.slice (some ⟨w.heap.size, 0, none⟩) l.length l.length) l.length (part (Value.int .u8) 0 l k) ∧ Below w.heap.size w wr)
    (fun i _ => l.length - (intOf i).toNat)
  case atStart => exact ⟨0, Nat.zero_le _, rfl, hown0, (Below.refl _ _).grown hgrow0 (Nat.le_refl _) (fun k h => by cases h)⟩
  case round =>
    obtain ⟨k, hk, rfl, hown, hnx⟩ := hrel
    by_cases hlt : k < l.length
    · have hcx : wr.cell? ⟨b, off + k, none⟩ = some (Value.int .u8 (l.getD k 0)) := (hnx.cell (by exact hb)).trans (hc k hlt)
      have hd : wr.cell? ⟨w.heap.size, k, none⟩ = some (Value.int .u8 0) := (hown.cellAt k (by omega)).trans (part_get l k hlt)
      have hf : wr.frozen? ⟨w.heap.size, k, none⟩ = false := hown.frozenAt k
      have R := hown.stored k (Value.int .u8 (l.getD k 0))
      rw [part_step l k hlt] at R
      generalize l.getD k 0 = c at hcx R
      have hB : Below w.heap.size w (wr.setCell ⟨w.heap.size, k, none⟩ (Value.int .u8 c)) := hnx.setCell (Nat.le_refl _) _
      have HR := hid R.1
      clear R hc
      go_wp2
      go_roundw
      case rel => exact ⟨k + 1, by omega, by go_num, HR.out, hB⟩
      case measure => simp [intOf]; omega
    · have hkl : k = l.length := by omega
      subst hkl
      go_wp2
      go_ret
      exact ⟨rfl, own_full (part_all l) hown, hnx⟩

theorem copyB_any (a : Option Addr) (len cap : Nat) (l : List Int) (w : World) (hr : IsRow (Value.int .u8) 0 w a len cap l) (hlen : len ≤ 1048576) :
    Calls Trym.prog 13 #[.slice a len cap] w fun e w' => ∃ a' c', e = .returned (.slice a' len c') ∧ w'.ownsRow w.heap.size 5 1 (.slice a' len c') len (l.map (Value.int .u8)) ∧ Below w.heap.size w w' := by
  obtain ⟨hl, h⟩ := hr
  rcases Nat.eq_zero_or_pos len with h0 | h0
  · subst h0
    obtain rfl := List.eq_nil_of_length_eq_zero hl
    rcases h with ⟨rfl, _, rfl⟩ | ⟨x, rfl, _⟩
    · refine (copyB_nil w).mono ?_
      rintro e w' ⟨rfl, rfl⟩
      exact ⟨_, _, rfl, World.ownsRow_nil _ _ _ _, Below.refl _ _⟩
    · refine (copyB_empty x cap w).mono ?_
      rintro e w' ⟨rfl, ho, hb⟩
      exact ⟨_, _, rfl, ho, hb⟩
  · have hat : IsRow (Value.int .u8) 0 w a len cap l := ⟨hl, h⟩
    obtain ⟨b, off, rfl, _⟩ := hat.at h0
    have hc : ∀ i, i < l.length → w.cell? ⟨b, off + i, none⟩ = some (Value.int .u8 (l.getD i 0)) := by
      intro i hi
      obtain ⟨b', o', h1, h2⟩ := hat.at (i := i) (by omega)
      simp only [Option.some.injEq, Addr.mk.injEq, and_true] at h1
      obtain ⟨rfl, rfl⟩ := h1
      exact h2
    subst hl
    refine (copyB_some b off l cap w hlen (World.block_lt_of_cell? w _ (hc 0 h0)) hc).mono ?_
    rintro e w' ⟨rfl, ho, hb⟩
    exact ⟨_, _, rfl, ho, hb⟩

set_option maxHeartbeats 400000 in
theorem copyS_nil (w : World) :
    Calls Trym.prog 12 #[.slice none 0 0] w fun e w' => e = .returned (.slice none 0 0) ∧ w' = w := by
  have hnil := fun (W : World) (a : Option Addr) (n c n' c' : Nat) => Lib.run_eql_slice_nil (P := Trym.prog) W 25 _ a n c n' c' Trym.underlying25
  go_enter Trym.func12, Trym.ntmps12
  go_wp2
  go_ret
  exact ⟨rfl, rfl⟩

set_option maxHeartbeats 800000 in
theorem copyS_empty (x : Addr) (cap : Nat) (w : World) :
    Calls Trym.prog 12 #[.slice (some x) 0 cap] w fun e w' => e = .returned (.slice (some ⟨w.heap.size, 0, none⟩) 0 0) ∧
      w'.ownsRow w.heap.size 9 1 (.slice (some ⟨w.heap.size, 0, none⟩) 0 0) 0 [] ∧ Below w.heap.size w w' := by
  have hnil := fun (W : World) (a : Option Addr) (n c n' c' : Nat) => Lib.run_eql_slice_nil (P := Trym.prog) W 25 _ a n c n' c' Trym.underlying25
  obtain ⟨i0, hi, hz0, hz1, hz2⟩ := info_parts Trym.info9
  go_enter Trym.func12, Trym.ntmps12
  go_wp2_with (at_make; refine wpList_make_full _ rfl _ _ 25 rfl w.heap.size 9 i0 (Value.string ByteArray.empty) 1 Trym.underlying25 hi hz0 hz1 _ _ _ _ 0 rfl rfl rfl rfl ?b2 ?b3 (Nat.le_refl _) ?_)
  case b2 => omega
  case b3 => unfold maxLen; omega
  intro w0 hown0 hgrow0
  have e0 : (madeCells #[(Value.string ByteArray.empty)] 0).toList = [] := by simp [madeCells]
  rw [e0] at hown0
  go_wp2
  refine wp_loop_rounds 1 ?_
  rw [rounds_succ]
  go_wp2
  go_ret
  exact ⟨rfl, hown0, (Below.refl _ _).grown hgrow0 (Nat.le_refl _) (fun k h => by cases h)⟩

set_option maxHeartbeats 800000 in
theorem copyS_some (b off : Nat) (l : List ByteArray) (cap : Nat) (w : World) (hlen : l.length ≤ 1048576) (hb : b < w.heap.size)
    (hc : ∀ i, i < l.length → w.cell? ⟨b, off + i, none⟩ = some (Value.string (l.getD i ByteArray.empty))) :
    Calls Trym.prog 12 #[.slice (some ⟨b, off, none⟩) l.length cap] w fun e w' => e = .returned (.slice (some ⟨w.heap.size, 0, none⟩) l.length l.length) ∧
      w'.ownsRow w.heap.size 9 1 (.slice (some ⟨w.heap.size, 0, none⟩) l.length l.length) l.length (l.map (Value.string)) ∧ Below w.heap.size w w' := by
  have hnil := fun (W : World) (a : Option Addr) (n c n' c' : Nat) => Lib.run_eql_slice_nil (P := Trym.prog) W 25 _ a n c n' c' Trym.underlying25
  obtain ⟨i0, hi, hz0, hz1, hz2⟩ := info_parts Trym.info9
  go_enter Trym.func12, Trym.ntmps12
  go_wp2_with (at_make; refine wpList_make_full _ rfl _ _ 25 rfl w.heap.size 9 i0 (Value.string ByteArray.empty) 1 Trym.underlying25 hi hz0 hz1 _ _ _ _ l.length rfl rfl rfl rfl ?b2 ?b3 (Nat.le_refl _) ?_)
  case b2 => rw [hz2]; omega
  case b3 => unfold maxLen; omega
  intro w0 hown0 hgrow0
  have e0 : (madeCells #[(Value.string ByteArray.empty)] l.length).toList = part (Value.string) ByteArray.empty l 0 := by
    rw [part_zero]; exact toList_madeCells_one _ _
  rw [e0] at hown0
  go_wp2
  go_loopw [4] (fun i wr => ∃ k : Nat, k ≤ l.length ∧ i = .int .i64 k ∧ wr.ownsRow w.heap.size 9 1 (.slice (some ⟨w.heap.size, 0, none⟩) l.length l.length) l.length (part (Value.string) ByteArray.empty l k) ∧ Below w.heap.size w wr)
    (fun i _ => l.length - (intOf i).toNat)
  case atStart => exact ⟨0, Nat.zero_le _, rfl, hown0, (Below.refl _ _).grown hgrow0 (Nat.le_refl _) (fun k h => by cases h)⟩
  case round =>
    obtain ⟨k, hk, rfl, hown, hnx⟩ := hrel
    by_cases hlt : k < l.length
    · have hcx : wr.cell? ⟨b, off + k, none⟩ = some (Value.string (l.getD k ByteArray.empty)) := (hnx.cell (by exact hb)).trans (hc k hlt)
      have hd : wr.cell? ⟨w.heap.size, k, none⟩ = some (Value.string ByteArray.empty) := (hown.cellAt k (by omega)).trans (part_get l k hlt)
      have hf : wr.frozen? ⟨w.heap.size, k, none⟩ = false := hown.frozenAt k
      have R := hown.stored k (Value.string (l.getD k ByteArray.empty))
      rw [part_step l k hlt] at R
      generalize l.getD k ByteArray.empty = c at hcx R
      have hB : Below w.heap.size w (wr.setCell ⟨w.heap.size, k, none⟩ (Value.string c)) := hnx.setCell (Nat.le_refl _) _
      have HR := hid R.1
      clear R hc
      go_wp2
      go_roundw
      case rel => exact ⟨k + 1, by omega, by go_num, HR.out, hB⟩
      case measure => simp [intOf]; omega
    · have hkl : k = l.length := by omega
      subst hkl
      go_wp2
      go_ret
      exact ⟨rfl, own_full (part_all l) hown, hnx⟩

theorem copyS_any (a : Option Addr) (len cap : Nat) (l : List ByteArray) (w : World) (hr : IsRow (Value.string) ByteArray.empty w a len cap l) (hlen : len ≤ 1048576) :
    Calls Trym.prog 12 #[.slice a len cap] w fun e w' => ∃ a' c', e = .returned (.slice a' len c') ∧ w'.ownsRow w.heap.size 9 1 (.slice a' len c') len (l.map (Value.string)) ∧ Below w.heap.size w w' := by
  obtain ⟨hl, h⟩ := hr
  rcases Nat.eq_zero_or_pos len with h0 | h0
  · subst h0
    obtain rfl := List.eq_nil_of_length_eq_zero hl
    rcases h with ⟨rfl, _, rfl⟩ | ⟨x, rfl, _⟩
    · refine (copyS_nil w).mono ?_
      rintro e w' ⟨rfl, rfl⟩
      exact ⟨_, _, rfl, World.ownsRow_nil _ _ _ _, Below.refl _ _⟩
    · refine (copyS_empty x cap w).mono ?_
      rintro e w' ⟨rfl, ho, hb⟩
      exact ⟨_, _, rfl, ho, hb⟩
  · have hat : IsRow (Value.string) ByteArray.empty w a len cap l := ⟨hl, h⟩
    obtain ⟨b, off, rfl, _⟩ := hat.at h0
    have hc : ∀ i, i < l.length → w.cell? ⟨b, off + i, none⟩ = some (Value.string (l.getD i ByteArray.empty)) := by
      intro i hi
      obtain ⟨b', o', h1, h2⟩ := hat.at (i := i) (by omega)
      simp only [Option.some.injEq, Addr.mk.injEq, and_true] at h1
      obtain ⟨rfl, rfl⟩ := h1
      exact h2
    subst hl
    refine (copyS_some b off l cap w hlen (World.block_lt_of_cell? w _ (hc 0 h0)) hc).mono ?_
    rintro e w' ⟨rfl, ho, hb⟩
    exact ⟨_, _, rfl, ho, hb⟩

end Go.Proofs.Qxb6602597aMods
