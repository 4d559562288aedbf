import Derived.Test.Qxb6602252aModsInvWalk
namespace Go.Proofs.Qxb6602252aMods
open Go.ChangeShapes Go.WideShapes Go.ChangeAt Go.RowKit
set_option linter.unusedVariables false
set_option linter.unusedSimpArgs false

/-- What the look-behind model still has to read: with a quote pending it stands one byte back. -/
def pend (b : Bool) (l : List Int) : List Int := if b then 39 :: l else l
def pos (b : Bool) (k : Nat) : Nat := if b then k - 1 else k

/-- What the model answers. -/
def AnsM (w' : World) (e : Ending) : Option (List Int × Nat) → Prop
  | none => e = .returned (.tuple #[.bool false, .slice none 0 0, .int .i64 0])
  | some r => ∃ v, e = .returned (.tuple #[.bool true, v, .int .i64 r.2]) ∧ Rd w' v r.1

theorem AnsM_some {n : Nat} {M : Int} {w' : World} {v : Value} {o : List Int} {r : Option (List Int × Nat)} (h : r = some (o, n)) (hM : M = n) (hr : Rd w' v o) :
    AnsM w' (.returned (.tuple #[.bool true, v, .int .i64 M])) r := by
  subst h; subst hM
  exact ⟨v, rfl, hr⟩

theorem own_snoc' {w : World} {B : Nat} {v : Value} {a : List Int} {c : Int} (h : w.ownsRow B 5 1 v (a.length + 1) (bs a ++ [.int .u8 c])) : w.ownsRow B 5 1 v (a ++ [c]).length (bs (a ++ [c])) := by
  rw [bs_append, List.length_append]
  exact h

set_option maxHeartbeats 3200000 in
set_option maxRecDepth 100000 in
theorem model_any (g cap a0 : Nat) (L : List Int) (w : World) (hlen : L.length ≤ 1048576) (hg : g < w.heap.size) (ha : a0 ≤ L.length)
    (hc : ∀ i, i < L.length → w.cell? ⟨g, i, none⟩ = some (.int .u8 (L.getD i 0))) :
    Calls Trym.prog 8 #[.slice (some ⟨g, 0, none⟩) L.length cap, .int .i64 a0] w fun e w' => AnsM w' e (Sq.R (L.drop a0) [] a0) ∧ Below w.heap.size w w' := by
  obtain ⟨i0, hi, hz0, hz1, hz2⟩ := info_parts Trym.info5
  generalize hr : Sq.R (L.drop a0) [] a0 = r
  have HR : Hid (Sq.R (L.drop a0) [] a0 = r) := hr
  clear hr
  go_enter Trym.func8, Trym.ntmps8
  go_wp2
  go_loopw [5, 7, 8] (fun u pe i wr => ∃ (acc : List Int) (p : Bool) (k : Nat), k ≤ L.length ∧ acc.length ≤ k ∧ (p = true → 0 < k) ∧ pe = .bool p ∧ i = .int .i64 k ∧ wr.ownsRow w.heap.size 5 1 u acc.length (bs acc) ∧
      Sq.R (pend p (L.drop k)) acc (pos p k) = r ∧ Below w.heap.size w wr)
    (fun _ _ i _ => L.length - (intOf i).toNat)
  case atStart => exact ⟨[], false, a0, ha, Nat.zero_le _, by simp, rfl, rfl, World.ownsRow_nil _ _ _ _, HR.out, Below.refl _ _⟩
  case round =>
    clear HR
    obtain ⟨acc, p, k, hk, hal, hpk, rfl, rfl, hown, hR, hnx⟩ := hrel
    have HR : Hid (Sq.R (pend p (L.drop k)) acc (pos p k) = r) := hR
    have S := hnx.size
    have hcr : ∀ i, i < L.length → wr.cell? ⟨g, i, none⟩ = some (.int .u8 (L.getD i 0)) := fun i hi => (hnx.cell (by exact hg)).trans (hc i hi)
    clear hR hc
    by_cases hlt : k < L.length
    · have g1 := hcr k hlt
      have hdr := Sq.drop_cons L k hlt
      have HD : Hid (L.drop k = L.getD k 0 :: L.drop (k + 1)) := hdr
      clear hcr hdr
      generalize L.getD k 0 = c at g1 HD
      by_cases hq : c = 39
      · subst hq
        cases p with
        | true =>
          have HR2 : Hid (Sq.R (pend false (L.drop (k + 1))) (acc ++ [39]) (pos false (k + 1)) = r) := by
            have h := HR.out
            simp only [pend, pos, if_true] at h
            rw [HD.out, Sq.R_twice, show k - 1 + 2 = k + 1 from by have := hpk rfl; omega] at h
            exact h
          go_wp2_with (at_builtin; refine wpList_append_own _ rfl _ _ 22 rfl w.heap.size 5 i0 (.int .u8 0) 1 1 Trym.underlying22 hi hz0 hz1 hz2 rfl (by decide) _ _ _ rfl (hown.alloc _) ⟨wr.heap.size, 0, none⟩ 1 1 [.int .u8 39] rfl rfl (cell_one_new _ _ _) (one_cell _) (by unfold maxLen; omega) (by omega) (by simp; omega) ?_)
          intro v' W1 hown1 hgrow1 _
          have B1 := below_grown (hnx.alloc S _) (by simp; omega) (hown.alloc _) hgrow1
          have O1 := own_snoc' hown1
          clear hown1 hgrow1 hown
          go_wp2
          go_roundw
          case rel => exact ⟨acc ++ [39], false, k + 1, by omega, by simp; omega, by simp, rfl, by go_num, O1, HR2.out, B1⟩
          case measure => simp [intOf]; omega
        | false =>
          have HR2 : Hid (Sq.R (pend true (L.drop (k + 1))) acc (pos true (k + 1)) = r) := by
            have h := HR.out
            simp only [pend, pos] at h
            rw [HD.out] at h
            exact h
          go_wp2
          go_roundw
          case rel => exact ⟨acc, true, k + 1, by omega, by omega, by simp, rfl, by go_num, hown, HR2.out, hnx⟩
          case measure => simp [intOf]; omega
      · have hq' : (c == 39) = false := beq_eq_false_iff_ne.2 hq
        cases p with
        | true =>
          have HE : Hid (r = some (acc, k)) := by
            have h := HR.out
            simp only [pend, pos, if_true] at h
            rw [HD.out, Sq.R_ends _ _ _ _ hq, show k - 1 + 1 = k from by have := hpk rfl; omega] at h
            exact h.symm
          clear hq
          go_wp2
          go_ret3
          exact ⟨AnsM_some HE.out rfl (Rd.of_own hown), hnx⟩
        | false =>
          have HR2 : Hid (Sq.R (pend false (L.drop (k + 1))) (acc ++ [c]) (pos false (k + 1)) = r) := by
            have h := HR.out
            simp only [pend, pos] at h
            rw [HD.out] at h
            simp only [Bool.false_eq_true, if_false] at h
            rw [Sq.R_plain _ _ _ _ hq] at h
            exact h
          clear hq
          go_wp2_with (at_builtin; refine wpList_append_own _ rfl _ _ 22 rfl w.heap.size 5 i0 (.int .u8 0) 1 1 Trym.underlying22 hi hz0 hz1 hz2 rfl (by decide) _ _ _ rfl (hown.alloc _) ⟨wr.heap.size, 0, none⟩ 1 1 [.int .u8 c] rfl rfl (cell_one_new _ _ _) (one_cell _) (by unfold maxLen; omega) (by omega) (by simp; omega) ?_)
          intro v' W1 hown1 hgrow1 _
          have B1 := below_grown (hnx.alloc S _) (by simp; omega) (hown.alloc _) hgrow1
          have O1 := own_snoc' hown1
          clear hown1 hgrow1 hown
          go_wp2
          go_roundw
          case rel => exact ⟨acc ++ [c], false, k + 1, by omega, by simp; omega, by simp, rfl, by go_num, O1, HR2.out, B1⟩
          case measure => simp [intOf]; omega
    · have hkl : k = L.length := by omega
      have HD : Hid (L.drop k = []) := List.drop_eq_nil_of_le (by omega)
      clear hcr
      cases p with
      | true =>
        have HE : Hid (r = some (acc, L.length)) := by
          have h := HR.out
          simp only [pend, pos, if_true] at h
          rw [HD.out, Sq.R_last, show k - 1 + 1 = L.length from by have := hpk rfl; omega] at h
          exact h.symm
        clear hkl
        go_wp2
        go_ret3
        exact ⟨AnsM_some HE.out rfl (Rd.of_own hown), hnx⟩
      | false =>
        have HE : Hid (r = none) := by
          have h := HR.out
          simp only [pend, pos] at h
          rw [HD.out] at h
          simp only [Bool.false_eq_true, if_false, Sq.R_nil] at h
          exact h.symm
        clear hkl
        go_wp2
        go_ret3
        rw [HE.out]
        exact ⟨rfl, hnx⟩

end Go.Proofs.Qxb6602252aMods
