import Derived.Test.Qxb6602889aModsGram
namespace Go.Proofs.Qxb6602889aMods
open Go.ChangeShapes Go.WideShapes Go.ChangeAt Go.RowKit
set_option linter.unusedVariables false
set_option linter.unusedSimpArgs false

/-- Function f answers r on the string z. -/
def Gives (f : Nat) (z : ByteArray) (r : Int × Bool) : Prop :=
  ∀ w : World, Calls Trym.prog f #[.string z] w fun x w' => x = .returned (.tuple #[.int .i64 r.1, .bool r.2]) ∧ ∃ n, w' = w.drewN n

set_option maxHeartbeats 400000 in
theorem utc_empty : Gives 15 ⟨#[]⟩ (0, true) := by
  intro w
  go_enter Trym.func15, Trym.ntmps15
  go_wp2
  go_ret2
  exact ⟨rfl, ⟨0, rfl⟩⟩
set_option maxHeartbeats 400000 in
theorem utc_Z : Gives 15 ⟨#[90]⟩ (0, true) := by
  intro w
  go_enter Trym.func15, Trym.ntmps15
  go_wp2
  go_ret2
  exact ⟨rfl, ⟨0, rfl⟩⟩
set_option maxHeartbeats 400000 in
theorem mod_empty : Gives 9 ⟨#[]⟩ (0, true) := by
  intro w
  go_enter Trym.func9, Trym.ntmps9
  go_wp2
  go_ret2
  exact ⟨rfl, ⟨0, rfl⟩⟩
set_option maxHeartbeats 400000 in
theorem mod_Z : Gives 9 ⟨#[90]⟩ (0, true) := by
  intro w
  go_enter Trym.func9, Trym.ntmps9
  go_wp2
  go_ret2
  exact ⟨rfl, ⟨0, rfl⟩⟩

set_option maxHeartbeats 800000 in
theorem mod_other (z : ByteArray) (h0 : z.toList.isEmpty = false) (h0' : (z.toList == []) = false) (h1 : (z.toList == [90]) = false) (h3 : z.size ≠ 3) (h6 : z.size ≠ 6) : Gives 9 z (0, false) := by
  intro w
  have a3 : ((z.size : Int) != 3) = true := by rw [bne_iff_ne]; omega
  have a6 : ((z.size : Int) != 6) = true := by rw [bne_iff_ne]; omega
  clear h3 h6
  go_enter Trym.func9, Trym.ntmps9
  go_wp2
  go_ret2
  exact ⟨rfl, ⟨0, rfl⟩⟩

set_option maxHeartbeats 800000 in
theorem utc_other (z : ByteArray) (h0 : z.toList.isEmpty = false) (h0' : (z.toList == []) = false) (h1 : (z.toList == [90]) = false) (hp : 0 < z.size) (h3 : z.size ≠ 3) (h6 : z.size ≠ 6) : Gives 15 z (0, false) := by
  intro w
  have a3 : ((z.size : Int) == 3) = false := by rw [beq_eq_false_iff_ne]; omega
  have a6 : ((z.size : Int) == 6) = false := by rw [beq_eq_false_iff_ne]; omega
  clear h3 h6
  by_cases hs : ((z[0]).toNat : Int) = 45
  · have hs1 : (((z[0]).toNat : Int) == 45) = true := by rw [hs]; rfl
    clear hs
    go_enter Trym.func15, Trym.ntmps15
    go_wp2
    go_ret2
    exact ⟨rfl, ⟨0, rfl⟩⟩
  · have hs1 : (((z[0]).toNat : Int) == 45) = false := beq_eq_false_iff_ne.2 hs
    by_cases hs' : ((z[0]).toNat : Int) = 43
    · have hs2 : (((z[0]).toNat : Int) != 43) = false := by rw [hs']; rfl
      clear hs hs'
      go_enter Trym.func15, Trym.ntmps15
      go_wp2
      go_ret2
      exact ⟨rfl, ⟨0, rfl⟩⟩
    · have hs2 : (((z[0]).toNat : Int) != 43) = true := bne_iff_ne.2 hs'
      clear hs hs'
      go_enter Trym.func15, Trym.ntmps15
      go_wp2
      go_ret2
      exact ⟨rfl, ⟨0, rfl⟩⟩

set_option maxHeartbeats 400000 in
theorem bytes7_any (s : ByteArray) (w : World) (h0 : s.size ≤ maxLen) :
    Calls Trym.prog 7 #[.string s] w fun e w' => e = .returned (.bool (decide (s.size ≤ 1048576))) ∧ w' = w := by
  unfold maxLen at h0
  by_cases hs : s.size ≤ 1048576
  · go_enter Trym.func7, Trym.ntmps7
    go_wp2
    go_ret
    exact ⟨by simp [hs], rfl⟩
  · go_enter Trym.func7, Trym.ntmps7
    go_wp2
    go_ret
    exact ⟨by simp [hs], rfl⟩

set_option maxHeartbeats 400000 in
theorem law_of (z : ByteArray) (r : Int × Bool) (hs : z.size ≤ 1048576) (h15 : Gives 15 z r) (h9 : Gives 9 z r) (w : World) :
    Calls Trym.prog 3 #[.string z] w fun x w' => x = .returned (.bool true) ∧ Grown w w' := by
  have hby : decide (z.size ≤ 1048576) = true := by simpa using hs
  have H8 : Hid (Gives 8 z r) := fun w => zz_of h15 w
  have H9 := hid h9
  have w0 : z.size ≤ maxLen := by unfold maxLen; omega
  clear h15 h9
  go_enter Trym.func3, Trym.ntmps3
  go_wp2_with fail
  refine (bytes7_any _ _ w0).mono ?_
  rintro e w ⟨rfl, rfl⟩
  rw [hby]
  go_wp2_with fail
  refine Calls.mono (H8.out _) ?_
  rintro e w1 ⟨rfl, n1, rfl⟩
  go_wp2_with fail
  refine Calls.mono (H9.out _) ?_
  rintro e w2 ⟨rfl, n2, rfl⟩
  go_wp2
  go_ret
  exact ⟨rfl, grown_drewN (Grown.refl _) _⟩

set_option maxHeartbeats 400000 in
theorem law_long (z : ByteArray) (hs : ¬ z.size ≤ 1048576) (w0 : z.size ≤ maxLen) (w : World) :
    Calls Trym.prog 3 #[.string z] w fun x w' => x = .returned (.bool true) ∧ Grown w w' := by
  have hby : decide (z.size ≤ 1048576) = false := by simpa using hs
  go_enter Trym.func3, Trym.ntmps3
  go_wp2_with fail
  refine (bytes7_any _ _ w0).mono ?_
  rintro e w ⟨rfl, rfl⟩
  rw [hby]
  go_wp2
  go_ret
  exact ⟨rfl, Grown.refl _⟩

theorem gram_walk (z : ByteArray) (w0 : z.size ≤ maxLen) (w : World) :
    Calls Trym.prog 3 #[.string z] w fun x w' => x = .returned (.bool true) ∧ Grown w w' := by
  by_cases hs : z.size ≤ 1048576
  · obtain ⟨⟨l⟩⟩ := z
    match l, hs with
    | [], hs => exact law_of _ _ hs utc_empty mod_empty w
    | [s, a, b], hs => exact law_of _ _ hs (fun w => utc3 s a b w) (fun w => mod3 s a b w) w
    | [s, a, b, c, d, e], hs => exact law_of _ _ hs (fun w => utc6 s a b c d e w) (fun w => mod6 s a b c d e w) w
    | [c], hs =>
      by_cases hc : c = 90
      · subst hc
        exact law_of _ _ hs utc_Z mod_Z w
      · have t1 : (⟨⟨[c]⟩⟩ : ByteArray).toList.isEmpty = false := by rw [ByteArray.toList_eq]; rfl
        have t2 : ((⟨⟨[c]⟩⟩ : ByteArray).toList == []) = false := by rw [ByteArray.toList_eq]; rfl
        have t3 : ((⟨⟨[c]⟩⟩ : ByteArray).toList == [90]) = false := by rw [ByteArray.toList_eq]; simp [hc]
        have t4 : (⟨⟨[c]⟩⟩ : ByteArray).size = 1 := rfl
        exact law_of _ _ hs (utc_other _ t1 t2 t3 (by omega) (by omega) (by omega)) (mod_other _ t1 t2 t3 (by omega) (by omega)) w
    | [c0, c1], hs =>
      have t1 : (⟨⟨[c0, c1]⟩⟩ : ByteArray).toList.isEmpty = false := by rw [ByteArray.toList_eq]; rfl
      have t2 : ((⟨⟨[c0, c1]⟩⟩ : ByteArray).toList == []) = false := by rw [ByteArray.toList_eq]; rfl
      have t3 : ((⟨⟨[c0, c1]⟩⟩ : ByteArray).toList == [90]) = false := by rw [ByteArray.toList_eq]; simp
      have t4 : (⟨⟨[c0, c1]⟩⟩ : ByteArray).size = 2 := rfl
      exact law_of _ _ hs (utc_other _ t1 t2 t3 (by omega) (by omega) (by omega)) (mod_other _ t1 t2 t3 (by omega) (by omega)) w
    | [c0, c1, c2, c3], hs =>
      have t1 : (⟨⟨[c0, c1, c2, c3]⟩⟩ : ByteArray).toList.isEmpty = false := by rw [ByteArray.toList_eq]; rfl
      have t2 : ((⟨⟨[c0, c1, c2, c3]⟩⟩ : ByteArray).toList == []) = false := by rw [ByteArray.toList_eq]; rfl
      have t3 : ((⟨⟨[c0, c1, c2, c3]⟩⟩ : ByteArray).toList == [90]) = false := by rw [ByteArray.toList_eq]; simp
      have t4 : (⟨⟨[c0, c1, c2, c3]⟩⟩ : ByteArray).size = 4 := rfl
      exact law_of _ _ hs (utc_other _ t1 t2 t3 (by omega) (by omega) (by omega)) (mod_other _ t1 t2 t3 (by omega) (by omega)) w
    | [c0, c1, c2, c3, c4], hs =>
      have t1 : (⟨⟨[c0, c1, c2, c3, c4]⟩⟩ : ByteArray).toList.isEmpty = false := by rw [ByteArray.toList_eq]; rfl
      have t2 : ((⟨⟨[c0, c1, c2, c3, c4]⟩⟩ : ByteArray).toList == []) = false := by rw [ByteArray.toList_eq]; rfl
      have t3 : ((⟨⟨[c0, c1, c2, c3, c4]⟩⟩ : ByteArray).toList == [90]) = false := by rw [ByteArray.toList_eq]; simp
      have t4 : (⟨⟨[c0, c1, c2, c3, c4]⟩⟩ : ByteArray).size = 5 := rfl
      exact law_of _ _ hs (utc_other _ t1 t2 t3 (by omega) (by omega) (by omega)) (mod_other _ t1 t2 t3 (by omega) (by omega)) w
    | c0 :: c1 :: c2 :: c3 :: c4 :: c5 :: c6 :: t, hs =>
      have t1 : (⟨⟨c0 :: c1 :: c2 :: c3 :: c4 :: c5 :: c6 :: t⟩⟩ : ByteArray).toList.isEmpty = false := by rw [ByteArray.toList_eq]; rfl
      have t2 : ((⟨⟨c0 :: c1 :: c2 :: c3 :: c4 :: c5 :: c6 :: t⟩⟩ : ByteArray).toList == []) = false := by rw [ByteArray.toList_eq]; rfl
      have t3 : ((⟨⟨c0 :: c1 :: c2 :: c3 :: c4 :: c5 :: c6 :: t⟩⟩ : ByteArray).toList == [90]) = false := by rw [ByteArray.toList_eq]; simp
      have t4 : (⟨⟨c0 :: c1 :: c2 :: c3 :: c4 :: c5 :: c6 :: t⟩⟩ : ByteArray).size = t.length + 7 := rfl
      exact law_of _ _ hs (utc_other _ t1 t2 t3 (by omega) (by omega) (by omega)) (mod_other _ t1 t2 t3 (by omega) (by omega)) w
  · exact law_long z hs w0 w

end Go.Proofs.Qxb6602889aMods
