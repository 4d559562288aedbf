import Derived.Test.Qxb6602252aModsModel
namespace Go.Proofs.Qxb6602252aMods
open Go.ChangeShapes Go.WideShapes Go.ChangeAt Go.RowKit
set_option linter.unusedVariables false
set_option linter.unusedSimpArgs false

theorem hid {p : Prop} (h : p) : Hid p := h

set_option maxHeartbeats 400000 in
theorem bytes5_any (a0 : Option Addr) (len0 cap0 : Nat) (x : Int) (w : World) (h0 : len0 ≤ maxLen) :
    Calls Trym.prog 5 #[.slice a0 len0 cap0, .int .i64 x] w fun e w' => e = .returned (.bool (decide (len0 ≤ 1048576))) ∧ w' = w := by
  unfold maxLen at h0
  by_cases hs : len0 ≤ 1048576
  · go_enter Trym.func5, Trym.ntmps5
    go_wp2
    go_ret
    exact ⟨by simp [hs], rfl⟩
  · go_enter Trym.func5, Trym.ntmps5
    go_wp2
    go_ret
    exact ⟨by simp [hs], rfl⟩

set_option maxHeartbeats 3200000 in
set_option maxRecDepth 100000 in
theorem lb_main (a0 : Option Addr) (len0 cap0 : Nat) (z0 : List Int) (k : Nat) (w : World) (w0 : IsRow .u8 w a0 len0 cap0 z0) (hs : len0 ≤ 1048576) (hk : k < len0) :
    Calls Trym.prog 3 #[.slice a0 len0 cap0, .int .i64 k] w fun e w' => e = .returned (.bool true) ∧ Below w.heap.size w w' := by
  have m0 := w0.max
  have hnil := fun (W : World) (a : Option Addr) (n c n' c' : Nat) => Lib.run_eql_slice_nil (P := Trym.prog) W 22 _ a n c n' c' Trym.underlying22
  have hby : decide (len0 ≤ 1048576) = true := by simpa using hs
  have e0 : (z0.take len0).length = len0 := by simp; omega
  have HW0 : Hid (IsRow .u8 w a0 len0 cap0 z0) := w0
  clear w0
  go_enter Trym.func3, Trym.ntmps3
  go_wp2_with fail
  refine (bytes5_any _ _ _ _ _ m0.1).mono ?_
  rintro e w ⟨rfl, rfl⟩
  rw [hby]
  clear m0
  go_wp2_with fail
  refine (clone_any a0 len0 cap0 z0 _ HW0.out (by omega)).mono ?_
  rintro e W1 ⟨v, rfl, hown, B1⟩
  rcases hown.2 with ⟨_, h⟩ | ⟨g, c, cur, rfl, _, _, hcap, _⟩
  · omega
  have hg : g < W1.heap.size := (hown.lt g rfl).2
  have hcells := (own_cells hown).2
  generalize z0.take len0 = L at *
  have HC : Hid (∀ i, i < L.length → W1.cell? ⟨g, i, none⟩ = some (.int .u8 (L.getD i 0))) := hcells
  clear hcells hown HW0
  subst e0
  go_wp2_with fail
  refine (zz_any g c k L W1 (by omega) hcap hg (by omega) HC.out).mono ?_
  rintro e W2 ⟨hans, B2⟩
  have hm := model_any g c (k + 1) L W2 hs (by have := B2.size; omega) (by omega) (fun i hi => (B2.cell (by exact hg)).trans (HC.out i hi))
  rw [show (((k + 1 : Nat) : Int)) = (k : Int) + 1 from by omega] at hm
  have HM := hid hm
  have BB : Below w.heap.size w W2 := B1.trans (B2.mono B1.size)
  have HBd : Hid (∀ o n, Sq.R (L.drop (k + 1)) [] (k + 1) = some (o, n) → o.length ≤ 4194304) := by
    intro o n h
    have := Sq.R_bound _ _ _ _ _ h
    simp at this
    omega
  clear hm HC B1 B2
  generalize Sq.R (L.drop (k + 1)) [] (k + 1) = r at hans HM HBd
  cases r with
  | none =>
    obtain rfl := hans
    go_wp2_with fail
    refine HM.out.mono ?_
    rintro e W3 ⟨hans, B3⟩
    obtain rfl := hans
    go_wp2_with fail
    go_ret
    exact ⟨rfl, BB.trans (B3.mono BB.size)⟩
  | some r =>
    obtain ⟨v, rfl, hrd⟩ := hans
    go_wp2_with fail
    refine HM.out.mono ?_
    rintro e W3 ⟨hans, B3⟩
    obtain ⟨v', rfl, hrd'⟩ := hans
    have hrd2 := hrd.later B3
    go_wp2_with fail
    refine (same_any _ _ r.1 W3 (HBd.out r.1 r.2 rfl) hrd2 hrd').mono ?_
    rintro e W4 ⟨rfl, B4⟩
    go_wp2
    go_ret
    exact ⟨rfl, (BB.trans (B3.mono BB.size)).trans (B4.mono (Nat.le_trans BB.size B3.size))⟩

set_option maxHeartbeats 1600000 in
set_option maxRecDepth 100000 in
theorem lb_walk (a0 : Option Addr) (len0 cap0 : Nat) (z0 : List Int) (x : Int) (w : World) (w0 : IsRow .u8 w a0 len0 cap0 z0) :
    Calls Trym.prog 3 #[.slice a0 len0 cap0, .int .i64 x] w fun e w' => e = .returned (.bool true) ∧ Below w.heap.size w w' := by
  have m0 := w0.max.1
  by_cases hs : len0 ≤ 1048576
  · have hby : decide (len0 ≤ 1048576) = true := by simpa using hs
    by_cases hx : x < 0
    · clear w0
      go_enter Trym.func3, Trym.ntmps3
      go_wp2_with fail
      refine (bytes5_any _ _ _ _ _ m0).mono ?_
      rintro e w ⟨rfl, rfl⟩
      rw [hby]
      go_wp2_with fail
      go_ret
      exact ⟨rfl, Below.refl _ _⟩
    · by_cases hx2 : x < len0
      · obtain ⟨k, rfl⟩ := Int.eq_ofNat_of_zero_le (Int.not_lt.1 hx)
        exact lb_main a0 len0 cap0 z0 k w w0 hs (by omega)
      · clear w0
        go_enter Trym.func3, Trym.ntmps3
        go_wp2_with fail
        refine (bytes5_any _ _ _ _ _ m0).mono ?_
        rintro e w ⟨rfl, rfl⟩
        rw [hby]
        go_wp2_with fail
        go_ret
        exact ⟨rfl, Below.refl _ _⟩
  · have hby : decide (len0 ≤ 1048576) = false := by simpa using hs
    clear w0
    go_enter Trym.func3, Trym.ntmps3
    go_wp2_with fail
    refine (bytes5_any _ _ _ _ _ m0).mono ?_
    rintro e w ⟨rfl, rfl⟩
    rw [hby]
    go_wp2_with fail
    go_ret
    exact ⟨rfl, Below.refl _ _⟩

end Go.Proofs.Qxb6602252aMods
