import Derived.Test.Qxb6602252aModsRows
import Derived.WalkKit
import Derived.ProofKit
import Derived.OpenShut
import Derived.ShutString
import Derived.ChangeOld
import Derived.Below
import Derived.WalkSpells
import Derived.WalkSmall
import Derived.Deep.QuietTactic
import Derived.BigQuiet
namespace Go.Proofs.Qxb6602252aMods
set_option linter.unusedVariables false
set_option linter.unusedSimpArgs false
open Go.ChangeShapes Go.WideShapes Go.ChangeAt Go.RowKit

theorem Trym.info5 : (Trym.prog.info? 5).map (fun i => (i.zero, i.size, i.bytes)) = some (some (.int .u8 0), 1, 1) := by kernel_rfl

/-- What the walk is told of a slice of bytes that came in. -/
def IsRow (k : IntKind) (w : World) (a : Option Addr) (len cap : Nat) (zs : List Int) : Prop :=
  (a = none ∧ len = 0 ∧ cap = 0 ∧ zs = []) ∨
  ∃ x, a = some x ∧ len ≤ cap ∧ cap ≤ maxLen ∧ zs.length = cap ∧ (∀ i, i < zs.length → w.cell? (x.add i) = some (.int k (zs.getD i 0))) ∧ ∀ n ∈ zs, (Lit.int k n).wf = true

/-- The bytes as cells. -/
def bs (l : List Int) : List Value := l.map (Value.int .u8)

theorem bs_length (l : List Int) : (bs l).length = l.length := by simp [bs]

/-- The list with its first k bytes in place, the rest zero. -/
def part (l : List Int) (k : Nat) : List Value := bs (l.take k) ++ List.replicate (l.length - k) (Value.int .u8 0)

theorem part_zero (l : List Int) : part l 0 = List.replicate l.length (Value.int .u8 0) := by simp [part, bs]
theorem part_all (l : List Int) : part l l.length = bs l := by simp [part]
theorem part_step (l : List Int) (k : Nat) (h : k < l.length) : (part l k).set k (.int .u8 (l.getD k 0)) = part l (k + 1) := by
  have e1 : l.take (k + 1) = l.take k ++ [l.getD k 0] := by
    rw [List.take_succ_eq_append_getElem h]; simp [List.getD, h]
  have e2 : l.length - k = (l.length - (k + 1)) + 1 := by omega
  unfold part
  rw [e1, e2, List.replicate_succ]
  have hl : (bs (l.take k)).length = k := by simp [bs]; omega
  rw [List.set_append_right _ _ (by omega), hl, Nat.sub_self]
  simp [bs]

set_option maxHeartbeats 400000 in
theorem clone_nil (w : World) :
    Calls Trym.prog 6 #[.slice none 0 0] w fun e w' => e = .returned (.slice none 0 0) ∧ w' = w := by
  have hnil := fun (W : World) (a : Option Addr) (n c n' c' : Nat) => Lib.run_eql_slice_nil (P := Trym.prog) W 22 _ a n c n' c' Trym.underlying22
  go_enter Trym.func6, Trym.ntmps6
  go_wp2
  go_ret
  exact ⟨rfl, rfl⟩

theorem own_full {w : World} {g : Nat} {xs : List Value} {l : List Int} (h : xs = bs l) (ho : w.ownsRow g 5 1 (.slice (some ⟨g, 0, none⟩) l.length l.length) l.length xs) :
    w.ownsRow g 5 1 (.slice (some ⟨g, 0, none⟩) l.length l.length) l.length (bs l) := h ▸ ho

theorem part_get (l : List Int) (k : Nat) (h : k < l.length) : (part l k)[k]? = some (.int .u8 0) := by
  have hl : (bs (l.take k)).length = k := by simp [bs]; omega
  unfold part
  rw [List.getElem?_append_right (by omega), hl, Nat.sub_self, List.getElem?_replicate, if_pos (by omega)]

set_option maxHeartbeats 800000 in
theorem clone_empty (x : Addr) (cap : Nat) (w : World) :
    Calls Trym.prog 6 #[.slice (some x) 0 cap] w fun e w' => e = .returned (.slice (some ⟨w.heap.size, 0, none⟩) 0 0) ∧
      w'.ownsRow w.heap.size 5 1 (.slice (some ⟨w.heap.size, 0, none⟩) 0 0) 0 [] ∧ Below w.heap.size w w' := by
  have hnil := fun (W : World) (a : Option Addr) (n c n' c' : Nat) => Lib.run_eql_slice_nil (P := Trym.prog) W 22 _ a n c n' c' Trym.underlying22
  obtain ⟨i0, hi, hz0, hz1, hz2⟩ := info_parts Trym.info5
  go_enter Trym.func6, Trym.ntmps6
  go_wp2_with (at_make; refine wpList_make_full _ rfl _ _ 22 rfl w.heap.size 5 i0 (.int .u8 0) 1 Trym.underlying22 hi hz0 hz1 _ _ _ _ 0 rfl rfl rfl rfl ?b2 ?b3 (Nat.le_refl _) ?_)
  case b2 => omega
  case b3 => unfold maxLen; omega
  intro w0 hown0 hgrow0
  have e0 : (madeCells #[Value.int .u8 0] 0).toList = [] := by simp [madeCells]
  rw [e0] at hown0
  go_wp2
  refine wp_loop_rounds 1 ?_
  rw [rounds_succ]
  go_wp2
  go_ret
  exact ⟨rfl, hown0, (Below.refl _ _).grown hgrow0 (Nat.le_refl _) (fun k h => by cases h)⟩

set_option maxHeartbeats 800000 in
theorem clone_some (b off : Nat) (l : List Int) (cap : Nat) (w : World) (hlen : l.length ≤ 1048576) (hb : b < w.heap.size)
    (hc : ∀ i, i < l.length → w.cell? ⟨b, off + i, none⟩ = some (.int .u8 (l.getD i 0))) :
    Calls Trym.prog 6 #[.slice (some ⟨b, off, none⟩) l.length cap] w fun e w' => e = .returned (.slice (some ⟨w.heap.size, 0, none⟩) l.length l.length) ∧
      w'.ownsRow w.heap.size 5 1 (.slice (some ⟨w.heap.size, 0, none⟩) l.length l.length) l.length (bs l) ∧ Below w.heap.size w w' := by
  have hnil := fun (W : World) (a : Option Addr) (n c n' c' : Nat) => Lib.run_eql_slice_nil (P := Trym.prog) W 22 _ a n c n' c' Trym.underlying22
  obtain ⟨i0, hi, hz0, hz1, hz2⟩ := info_parts Trym.info5
  go_enter Trym.func6, Trym.ntmps6
  go_wp2_with (at_make; refine wpList_make_full _ rfl _ _ 22 rfl w.heap.size 5 i0 (.int .u8 0) 1 Trym.underlying22 hi hz0 hz1 _ _ _ _ l.length rfl rfl rfl rfl ?b2 ?b3 (Nat.le_refl _) ?_)
  case b2 => rw [hz2]; omega
  case b3 => unfold maxLen; omega
  intro w0 hown0 hgrow0
  have e0 : (madeCells #[Value.int .u8 0] l.length).toList = part l 0 := by
    rw [part_zero]; exact toList_madeCells_one _ _
  rw [e0] at hown0
  go_wp2
  go_loopw [4] (fun i wr => ∃ k : Nat, k ≤ l.length ∧ i = .int .i64 k ∧ wr.ownsRow w.heap.size 5 1 (.slice (some ⟨w.heap.size, 0, none⟩) l.length l.length) l.length (part l k) ∧ Below w.heap.size w wr)
    (fun i _ => l.length - (intOf i).toNat)
  case atStart => exact ⟨0, Nat.zero_le _, rfl, hown0, (Below.refl _ _).grown hgrow0 (Nat.le_refl _) (fun k h => by cases h)⟩
  case round =>
    obtain ⟨k, hk, rfl, hown, hnx⟩ := hrel
    by_cases hlt : k < l.length
    · have hcx : wr.cell? ⟨b, off + k, none⟩ = some (.int .u8 (l.getD k 0)) := (hnx.cell (by exact hb)).trans (hc k hlt)
      have hd : wr.cell? ⟨w.heap.size, k, none⟩ = some (.int .u8 0) := (hown.cellAt k (by omega)).trans (part_get l k hlt)
      have hf : wr.frozen? ⟨w.heap.size, k, none⟩ = false := hown.frozenAt k
      have R := hown.stored k (.int .u8 (l.getD k 0))
      rw [part_step l k hlt] at R
      generalize l.getD k 0 = c at hcx R
      have hB : Below w.heap.size w (wr.setCell ⟨w.heap.size, k, none⟩ (.int .u8 c)) := hnx.setCell (Nat.le_refl _) _
      have HR : Hid (wr.setCell ⟨w.heap.size, k, none⟩ (.int .u8 c) |>.ownsRow w.heap.size 5 1 (.slice (some ⟨w.heap.size, 0, none⟩) l.length l.length) l.length (part l (k + 1))) := R.1
      clear R hc
      go_wp2
      go_roundw
      case rel => exact ⟨k + 1, by omega, by go_num, HR.out, hB⟩
      case measure => simp [intOf]; omega
    · have hkl : k = l.length := by omega
      subst hkl
      go_wp2
      go_ret
      exact ⟨rfl, own_full (part_all l) hown, hnx⟩

theorem clone_any (a : Option Addr) (len cap : Nat) (zs : List Int) (w : World) (hr : IsRow .u8 w a len cap zs) (hlen : len ≤ 1048576) :
    Calls Trym.prog 6 #[.slice a len cap] w fun e w' => ∃ v, e = .returned v ∧ w'.ownsRow w.heap.size 5 1 v len (bs (zs.take len)) ∧ Below w.heap.size w w' := by
  rcases hr with ⟨rfl, rfl, rfl, rfl⟩ | ⟨x, rfl, hlc, hm, hz, hc, _⟩
  · refine (clone_nil w).mono ?_
    rintro e w' ⟨rfl, rfl⟩
    exact ⟨_, rfl, World.ownsRow_nil _ _ _ _, Below.refl _ _⟩
  · by_cases h0 : len = 0
    · subst h0
      refine (clone_empty x cap w).mono ?_
      rintro e w' ⟨rfl, ho, hb⟩
      exact ⟨_, rfl, ho, hb⟩
    · obtain ⟨b, off, rfl, hc'⟩ := ints_at hc (by omega)
      have hl : (zs.take len).length = len := by simp; omega
      have hg : ∀ i, i < (zs.take len).length → w.cell? ⟨b, off + i, none⟩ = some (.int .u8 ((zs.take len).getD i 0)) := by
        intro i hi
        rw [hl] at hi
        rw [hc' i (by omega)]
        simp [List.getD, hi]
      have hb : b < w.heap.size := World.block_lt_of_cell? w ⟨b, off + 0, none⟩ (hc' 0 (by omega))
      have := clone_some b off (zs.take len) cap w (by omega) hb hg
      rw [hl] at this
      refine this.mono ?_
      rintro e w' ⟨rfl, ho, hb⟩
      exact ⟨_, rfl, ho, hb⟩

/-- The slice v holds the bytes l (nil and empty alike). -/
def Rd (w : World) (v : Value) (l : List Int) : Prop :=
  (v = .slice none 0 0 ∧ l = []) ∨
  ∃ b o cap, v = .slice (some ⟨b, o, none⟩) l.length cap ∧ l.length ≤ cap ∧ ∀ i, i < l.length → w.cell? ⟨b, o + i, none⟩ = some (.int .u8 (l.getD i 0))

theorem Rd.later {w w' : World} {v : Value} {l : List Int} (h : Rd w v l) (hb : Below w.heap.size w w') : Rd w' v l := by
  rcases h with h | ⟨b, o, cap, hv, hl, hc⟩
  · exact .inl h
  · refine .inr ⟨b, o, cap, hv, hl, fun i hi => ?_⟩
    have := hc i hi
    rw [hb.cell (World.block_lt_of_cell? w _ this)]
    exact this

theorem Rd.of_own {w : World} {B : Nat} {v : Value} {n : Nat} {l : List Int} (h : w.ownsRow B 5 1 v n (bs l)) : Rd w v l := by
  have h1 := h.1
  have hn : n = l.length := by simpa [bs] using h1.symm
  rcases h.2 with ⟨rfl, rfl⟩ | ⟨g, cap, cur, rfl, _, _, hnc, _⟩
  · left; exact ⟨rfl, List.eq_nil_of_length_eq_zero hn.symm⟩
  · right
    refine ⟨g, 0, cap, by rw [hn], by omega, fun i hi => ?_⟩
    rw [Nat.zero_add, h.cellAt i (by omega)]
    simp [bs, List.getD, hi]

set_option maxHeartbeats 800000 in
theorem same_empty (a1 a2 : Option Addr) (c1 c2 : Nat) (w : World) :
    Calls Trym.prog 9 #[.slice a1 0 c1, .slice a2 0 c2] w fun e w' => e = .returned (.bool true) ∧ w' = w := by
  go_enter Trym.func9, Trym.ntmps9
  go_wp2
  refine wp_loop_rounds 1 ?_
  rw [rounds_succ]
  go_wp2
  go_ret
  exact ⟨rfl, rfl⟩

set_option maxHeartbeats 800000 in
theorem same_some (b1 o1 c1 b2 o2 c2 : Nat) (l : List Int) (w : World) (hlen : l.length ≤ 4194304) (h0 : 0 < l.length)
    (hc1 : ∀ i, i < l.length → w.cell? ⟨b1, o1 + i, none⟩ = some (.int .u8 (l.getD i 0)))
    (hc2 : ∀ i, i < l.length → w.cell? ⟨b2, o2 + i, none⟩ = some (.int .u8 (l.getD i 0))) :
    Calls Trym.prog 9 #[.slice (some ⟨b1, o1, none⟩) l.length c1, .slice (some ⟨b2, o2, none⟩) l.length c2] w fun e w' => e = .returned (.bool true) ∧ Below w.heap.size w w' := by
  have hb1 : b1 < w.heap.size := World.block_lt_of_cell? w ⟨b1, o1 + 0, none⟩ (hc1 0 h0)
  have hb2 : b2 < w.heap.size := World.block_lt_of_cell? w ⟨b2, o2 + 0, none⟩ (hc2 0 h0)
  go_enter Trym.func9, Trym.ntmps9
  go_wp2
  go_loopw [5] (fun i wr => ∃ k : Nat, k ≤ l.length ∧ i = .int .i64 k ∧ Below w.heap.size w wr)
    (fun i _ => l.length - (intOf i).toNat)
  case atStart => exact ⟨0, Nat.zero_le _, rfl, Below.refl _ _⟩
  case round =>
    obtain ⟨k, hk, rfl, hnx⟩ := hrel
    by_cases hlt : k < l.length
    · have g1 : wr.cell? ⟨b1, o1 + k, none⟩ = some (.int .u8 (l.getD k 0)) := (hnx.cell (by exact hb1)).trans (hc1 k hlt)
      have g2 : wr.cell? ⟨b2, o2 + k, none⟩ = some (.int .u8 (l.getD k 0)) := (hnx.cell (by exact hb2)).trans (hc2 k hlt)
      generalize l.getD k 0 = c at g1 g2
      clear hc1 hc2
      have i0 : (0 : Int) ≤ (k : Int) := by omega
      have i1 : (k : Int) < (l.length : Int) := by omega
      go_wp2
      go_quiet (fail)
      go_wp2
      go_roundw
      case rel => exact ⟨k + 1, by omega, by go_num, below_drewN hnx _⟩
      case measure => simp [intOf]; omega
    · go_wp2
      go_ret
      exact ⟨rfl, hnx⟩

theorem same_any (v1 v2 : Value) (l : List Int) (w : World) (hlen : l.length ≤ 4194304) (h1 : Rd w v1 l) (h2 : Rd w v2 l) :
    Calls Trym.prog 9 #[v1, v2] w fun e w' => e = .returned (.bool true) ∧ Below w.heap.size w w' := by
  by_cases h0 : l = []
  · subst h0
    have e1 : ∃ a c, v1 = .slice a 0 c := by
      rcases h1 with ⟨rfl, _⟩ | ⟨b, o, cap, rfl, _⟩
      · exact ⟨_, _, rfl⟩
      · exact ⟨_, _, rfl⟩
    have e2 : ∃ a c, v2 = .slice a 0 c := by
      rcases h2 with ⟨rfl, _⟩ | ⟨b, o, cap, rfl, _⟩
      · exact ⟨_, _, rfl⟩
      · exact ⟨_, _, rfl⟩
    obtain ⟨a1, c1, rfl⟩ := e1
    obtain ⟨a2, c2, rfl⟩ := e2
    refine (same_empty a1 a2 c1 c2 w).mono ?_
    rintro e w' ⟨rfl, rfl⟩
    exact ⟨rfl, Below.refl _ _⟩
  · have hp : 0 < l.length := List.length_pos_iff.2 h0
    rcases h1 with ⟨_, h⟩ | ⟨b1, o1, c1, rfl, _, hc1⟩
    · exact absurd h h0
    · rcases h2 with ⟨_, h⟩ | ⟨b2, o2, c2, rfl, _, hc2⟩
      · exact absurd h h0
      · exact same_some b1 o1 c1 b2 o2 c2 l w hlen hp hc1 hc2

end Go.Proofs.Qxb6602252aMods
