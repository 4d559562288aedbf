import Derived.Test.Qxb6602252aModsKit
import Derived.Test.Qxb6602252aModsPlain
namespace Go.Proofs.Qxb6602252aMods
set_option linter.unusedVariables false
set_option linter.unusedSimpArgs false
open Go.ChangeShapes Go.WideShapes Go.ChangeAt Go.RowKit

/-- What a reader's call leaves. -/
def Ans (p a0 : Nat) (w' : World) (e : Ending) : Option (List Int × Nat) → Prop
  | none => e = .returned (.tuple #[.slice none 0 0, .bool false, .bool false]) ∧ w'.cell? ⟨p, 1, none⟩ = some (.int .i64 a0)
  | some r => ∃ v, e = .returned (.tuple #[v, .bool false, .bool true]) ∧ Rd w' v r.1 ∧ w'.cell? ⟨p, 1, none⟩ = some (.int .i64 r.2)

theorem src_cells {w : World} {g : Nat} {L : List Int} (s k : Nat) (hk : k ≤ L.length) (hc : ∀ i, i < L.length → w.cell? ⟨g, i, none⟩ = some (.int .u8 (L.getD i 0))) :
    ∀ j u, (bs (Sq.X L s k))[j]? = some u → w.cell? ((⟨g, s, none⟩ : Addr).add j) = some u := by
  intro j u hu
  have hj : j < k - s := by
    have := (List.getElem?_eq_some_iff.1 hu).1
    rw [bs_length, Sq.X_length L s k hk] at this
    exact this
  rw [Addr.add_lit, hc (s + j) (by omega), ← Sq.X_get L s k j hk hj, ← hu]
  have hl : j < (Sq.X L s k).length := by rw [Sq.X_length L s k hk]; exact hj
  simp [bs, List.getD, hl]

theorem bs_append (a b : List Int) : bs (a ++ b) = bs a ++ bs b := by simp [bs]

theorem Rd.cut {w : World} {g : Nat} {L : List Int} (s k cap : Nat) (hk : k ≤ L.length) (hcap : L.length ≤ cap) (hc : ∀ i, i < L.length → w.cell? ⟨g, i, none⟩ = some (.int .u8 (L.getD i 0))) :
    Rd w (.slice (some ⟨g, s, none⟩) (k - s) (cap - s)) (Sq.X L s k) := by
  have hl := Sq.X_length L s k hk
  refine .inr ⟨g, s, cap - s, by rw [hl], by omega, fun i hi => ?_⟩
  rw [hl] at hi
  rw [hc (s + i) (by omega), Sq.X_get L s k i hk hi]

theorem own_append {w : World} {B : Nat} {v : Value} {a b : List Int} {m : Nat} (hm : (bs b).length = m * 1) (h : w.ownsRow B 5 1 v (a.length + m) (bs a ++ bs b)) : w.ownsRow B 5 1 v (a ++ b).length (bs (a ++ b)) := by
  rw [bs_append, List.length_append]
  rw [bs_length] at hm
  have : m = b.length := by omega
  rw [this] at h
  exact h

theorem below_grown {B : Nat} {w wr w1 : World} {u : Value} {n : Nat} {xs : List Value} (hnx : Below B w wr) (hB : B ≤ wr.heap.size) (hown : wr.ownsRow B 5 1 u n xs) (hg : wr.grownBy w1 u.ownBlock) : Below B w w1 :=
  hnx.grown hg hB (fun k hk => (hown.lt k hk).1)

theorem Ans_some {p a0 n : Nat} {w' : World} {v : Value} {o : List Int} {r : Option (List Int × Nat)} (h : r = some (o, n + 1)) (hr : Rd w' v o) (hc : w'.cell? ⟨p, 1, none⟩ = some (.int .i64 ((n : Int) + 1))) :
    Ans p a0 w' (.returned (.tuple #[v, .bool false, .bool true])) r := by
  subst h
  exact ⟨v, rfl, hr, by rw [hc]; simp⟩

set_option maxHeartbeats 3200000 in
set_option maxRecDepth 100000 in
theorem reader_any (p g cap a0 : Nat) (L : List Int) (w : World) (hlen : L.length ≤ 4194304) (hcap : L.length ≤ cap) (hg : g < p) (hp : p < w.heap.size) (ha : a0 + 1 ≤ L.length)
    (hL : w.cell? ⟨p, 0, none⟩ = some (.slice (some ⟨g, 0, none⟩) L.length cap)) (hA : w.cell? ⟨p, 1, none⟩ = some (.int .i64 a0)) (hF : w.frozen? ⟨p, 1, none⟩ = false)
    (hc : ∀ i, i < L.length → w.cell? ⟨g, i, none⟩ = some (.int .u8 (L.getD i 0))) :
    Calls Trym.prog 11 #[.pointer (some ⟨p, 0, none⟩)] w fun e w' => Ans p a0 w' e (Sq.R (L.drop (a0 + 1)) [] (a0 + 1)) ∧ Below p w w' := by
  have hnil := fun (W : World) (a : Option Addr) (n c n' c' : Nat) => Lib.run_eql_slice_nil (P := Trym.prog) W 22 _ a n c n' c' Trym.underlying22
  obtain ⟨i0, hi, hz0, hz1, hz2⟩ := info_parts Trym.info5
  generalize hr : Sq.R (L.drop (a0 + 1)) [] (a0 + 1) = r
  have HR : Hid (Sq.R (L.drop (a0 + 1)) [] (a0 + 1) = r) := hr
  clear hr
  go_enter Trym.func11, Trym.ntmps11
  go_wp2
  go_loopw [5, 6, 7] (fun u st i wr => ∃ (acc : List Int) (s k : Nat), a0 + 1 ≤ s ∧ s ≤ k ∧ k ≤ L.length ∧ acc.length ≤ s ∧ st = .int .i64 s ∧ i = .int .i64 k ∧ wr.ownsRow w.heap.size 5 1 u acc.length (bs acc) ∧
      Sq.R (L.drop k) (acc ++ Sq.X L s k) k = r ∧ Below w.heap.size w wr)
    (fun _ _ i _ => L.length - (intOf i).toNat)
  case atStart => exact ⟨[], a0 + 1, a0 + 1, Nat.le_refl _, Nat.le_refl _, ha, by simp, by go_num, by go_num, World.ownsRow_nil _ _ _ _, by rw [Sq.X_self]; exact HR.out, Below.refl _ _⟩
  case round =>
    clear HR
    obtain ⟨acc, s, k, hs0, hsk, hk, hal, rfl, rfl, hown, hR, hnx⟩ := hrel
    have HR : Hid (Sq.R (L.drop k) (acc ++ Sq.X L s k) k = r) := hR
    have hLr : wr.cell? ⟨p, 0, none⟩ = some (.slice (some ⟨g, 0, none⟩) L.length cap) := (hnx.cell (by exact hp)).trans hL
    have hAr : wr.cell? ⟨p, 1, none⟩ = some (.int .i64 a0) := (hnx.cell (by exact hp)).trans hA
    have hFr : wr.frozen? ⟨p, 1, none⟩ = false := (hnx.frozen (by exact hp)).trans hF
    have hcr : ∀ i, i < L.length → wr.cell? ⟨g, i, none⟩ = some (.int .u8 (L.getD i 0)) := fun i hi => (hnx.cell (by exact Nat.lt_trans hg hp)).trans (hc i hi)
    have Hc : Hid (∀ i, i < L.length → wr.cell? ⟨g, i, none⟩ = some (.int .u8 (L.getD i 0))) := hcr
    have HB : w.heap.size ≤ wr.heap.size := hnx.size
    clear hR hL hA hF hc
    by_cases hlt : k < L.length
    · have g1 := hcr k hlt
      by_cases hq : L.getD k 0 = 39
      · rw [hq] at g1
        by_cases hlt2 : k + 1 < L.length ∧ L.getD (k + 1) 0 = 39
        · obtain ⟨hlt2, hq2⟩ := hlt2
          have g2 := hcr (k + 1) hlt2
          rw [hq2] at g2
          have HR2 : Hid (Sq.R (L.drop (k + 2)) ((acc ++ Sq.X L s (k + 1)) ++ Sq.X L (k + 2) (k + 2)) (k + 2) = r) := Sq.step_twice hsk hlt2 hq hq2 HR.out
          clear hcr hq hq2
          have n0 : (bs (Sq.X L s (k + 1))).length = (k + 1 - s) * 1 := by rw [bs_length, Sq.X_length L s (k + 1) (by omega)]; omega
          have N1 : Hid (∀ j u, (bs (Sq.X L s (k + 1)))[j]? = some u → wr.cell? ((⟨g, s, none⟩ : Addr).add j) = some u) := src_cells s (k + 1) (by omega) Hc.out
          go_wp2_with (at_builtin; refine wpList_append_own _ rfl _ _ 22 rfl w.heap.size 5 i0 (.int .u8 0) 1 1 Trym.underlying22 hi hz0 hz1 hz2 rfl (by decide) _ _ _ rfl hown ⟨g, s, none⟩ (k + 1 - s) (cap - s) (bs (Sq.X L s (k + 1))) rfl n0 N1.out (ints_oneCell _ _) (by unfold maxLen; omega) (by omega) HB ?_)
          intro v' w1 hown1 hgrow1 _
          have B1 := below_grown hnx HB hown hgrow1
          have O1 := own_append n0 hown1
          have hal2 : (acc ++ Sq.X L s (k + 1)).length ≤ k + 2 := by rw [List.length_append, Sq.X_length L s (k + 1) (by omega)]; omega
          clear hown1 hgrow1 hown
          go_wp2
          go_roundw
          case rel => exact ⟨acc ++ Sq.X L s (k + 1), k + 2, k + 2, by omega, Nat.le_refl _, by omega, hal2, by go_num, by go_num, O1, HR2.out, B1⟩
          case measure => simp [intOf]; omega
        · have HE : Hid (r = some (acc ++ Sq.X L s k, k + 1)) := Sq.step_end hlt hq (fun h h2 => hlt2 ⟨h, h2⟩) HR.out
          have hd : (k + 1 < L.length → wr.cell? ⟨g, k + 1, none⟩ = some (.int .u8 (L.getD (k + 1) 0)) ∧ (L.getD (k + 1) 0 == 39) = false) := fun h => ⟨hcr (k + 1) h, by
            rw [beq_eq_false_iff_ne]; exact fun h2 => hlt2 ⟨h, h2⟩⟩
          have n0 : (bs (Sq.X L s k)).length = (k - s) * 1 := by rw [bs_length, Sq.X_length L s k (by omega)]; omega
          generalize L.getD (k + 1) 0 = d at hd
          clear hcr hq hlt2
          have hE1 : (wr.setCell ⟨p, 1, none⟩ (.int .i64 ((k : Int) + 1))).cell? ⟨p, 1, none⟩ = some (.int .i64 ((k : Int) + 1)) := World.cell?_setCell_same _ _ _ hAr
          have HcE : Hid (∀ i, i < L.length → (wr.setCell ⟨p, 1, none⟩ (.int .i64 ((k : Int) + 1))).cell? ⟨g, i, none⟩ = some (.int .u8 (L.getD i 0))) := fun i hi =>
            (World.cell?_setCell_other _ _ _ _ (by intro h; injection h; omega)).trans (Hc.out i hi)
          have hBE : Below p w (wr.setCell ⟨p, 1, none⟩ (.int .i64 ((k : Int) + 1))) := (hnx.mono (Nat.le_of_lt hp)).setCell (Nat.le_refl _) _
          have hLE : (wr.setCell ⟨p, 1, none⟩ (.int .i64 ((k : Int) + 1))).cell? ⟨p, 0, none⟩ = some (.slice (some ⟨g, 0, none⟩) L.length cap) := (World.cell?_setCell_other _ _ _ _ (by simp)).trans hLr
          rcases hown.2 with ⟨rfl, h0⟩ | ⟨g', cap', cur, rfl, _⟩
          · have hacc : acc = [] := List.eq_nil_of_length_eq_zero h0
            subst hacc
            clear hown
            have hRd := Rd.cut (w := wr.setCell ⟨p, 1, none⟩ (.int .i64 ((k : Int) + 1))) s k cap hk hcap HcE.out
            by_cases hlt3 : k + 1 < L.length
            · obtain ⟨g2, hd2⟩ := hd hlt3
              clear hd
              go_wp2
              go_ret3
              exact ⟨Ans_some HE.out hRd hE1, hBE⟩
            · clear hd
              go_wp2
              go_ret3
              exact ⟨Ans_some HE.out hRd hE1, hBE⟩
          · have hown' := ownsRow_setCell_below hown (a := ⟨p, 1, none⟩) hp (.int .i64 ((k : Int) + 1))
            have hg' : w.heap.size ≤ g' := (hown.lt g' rfl).1
            have N1 : Hid (∀ j u, (bs (Sq.X L s k))[j]? = some u → (wr.setCell ⟨p, 1, none⟩ (.int .i64 ((k : Int) + 1))).cell? ((⟨g, s, none⟩ : Addr).add j) = some u) := src_cells s k hk HcE.out
            have HB' : w.heap.size ≤ (wr.setCell ⟨p, 1, none⟩ (.int .i64 ((k : Int) + 1))).heap.size := by simpa using HB
            clear hown
            by_cases hlt3 : k + 1 < L.length
            · obtain ⟨g2, hd2⟩ := hd hlt3
              clear hd
              go_wp2_with (at_builtin; refine wpList_append_own _ rfl _ _ 22 rfl w.heap.size 5 i0 (.int .u8 0) 1 1 Trym.underlying22 hi hz0 hz1 hz2 rfl (by decide) _ _ _ rfl hown' ⟨g, s, none⟩ (k - s) (cap - s) (bs (Sq.X L s k)) rfl n0 N1.out (ints_oneCell _ _) (by unfold maxLen; omega) (by omega) HB' ?_)
              intro v' w1 hown1 hgrow1 _
              have hE2 := hgrow1.cell hE1 (by simp [Value.ownBlock]; omega)
              have hB2 := hBE.grown hgrow1 (by omega) (fun j hj => by simp [Value.ownBlock] at hj; omega)
              have O1 := Rd.of_own (own_append n0 hown1)
              clear hown1 hgrow1 hown' hE1 hLE
              go_wp2
              go_ret3
              exact ⟨Ans_some HE.out O1 hE2, hB2⟩
            · clear hd
              go_wp2_with (at_builtin; refine wpList_append_own _ rfl _ _ 22 rfl w.heap.size 5 i0 (.int .u8 0) 1 1 Trym.underlying22 hi hz0 hz1 hz2 rfl (by decide) _ _ _ rfl hown' ⟨g, s, none⟩ (k - s) (cap - s) (bs (Sq.X L s k)) rfl n0 N1.out (ints_oneCell _ _) (by unfold maxLen; omega) (by omega) HB' ?_)
              intro v' w1 hown1 hgrow1 _
              have hE2 := hgrow1.cell hE1 (by simp [Value.ownBlock]; omega)
              have hB2 := hBE.grown hgrow1 (by omega) (fun j hj => by simp [Value.ownBlock] at hj; omega)
              have O1 := Rd.of_own (own_append n0 hown1)
              clear hown1 hgrow1 hown' hE1 hLE
              go_wp2
              go_ret3
              exact ⟨Ans_some HE.out O1 hE2, hB2⟩
      · have HR2 : Hid (Sq.R (L.drop (k + 1)) (acc ++ Sq.X L s (k + 1)) (k + 1) = r) := Sq.step_plain hsk hlt hq HR.out
        have hq' : (L.getD k 0 == 39) = false := beq_eq_false_iff_ne.2 hq
        clear hcr hq
        generalize L.getD k 0 = c at g1 hq'
        go_wp2
        go_roundw
        case rel => exact ⟨acc, s, k + 1, by omega, by omega, by omega, hal, rfl, by go_num, hown, HR2.out, hnx⟩
        case measure => simp [intOf]; omega
    · have HE : Hid (r = none) := Sq.step_out hlt HR.out
      clear hcr
      go_wp2
      go_ret3
      rw [HE.out]
      exact ⟨⟨rfl, hAr⟩, hnx.mono (Nat.le_of_lt hp)⟩

end Go.Proofs.Qxb6602252aMods
