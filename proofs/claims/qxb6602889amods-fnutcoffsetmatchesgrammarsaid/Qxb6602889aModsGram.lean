import Derived.Test.Qxb6602889aModsRend
namespace Go.Proofs.Qxb6602889aMods
open Go.ChangeShapes Go.WideShapes Go.ChangeAt Go.RowKit
set_option linter.unusedVariables false
set_option linter.unusedSimpArgs false

/-- A digit; an hour's two digits. -/
def dg (c : Int) : Bool := decide (48 ≤ c) && decide (c ≤ 57)
def hp (a b : Int) : Bool := decide (0 ≤ d2 a b) && decide (d2 a b ≤ 23)

theorem ret_b {a b : Bool} (h : a = b) : Ending.returned (.bool a) = .returned (.bool b) := by rw [h]

set_option maxHeartbeats 400000 in
theorem isDigit_any (c : Int) (w : World) : Calls Trym.prog 17 #[.int .u8 c] w fun x w' => x = .returned (.bool (dg c)) ∧ w' = w := by
  by_cases h : 48 ≤ c
  · have hd : Hid (dg c = decide (c ≤ 57)) := by show _ = _; simp [dg, h]
    go_enter Trym.func17, Trym.ntmps17
    go_wp2
    go_ret
    exact ⟨ret_b hd.out.symm, rfl⟩
  · have hd : Hid (dg c = false) := by show _ = _; simp [dg]; omega
    go_enter Trym.func17, Trym.ntmps17
    go_wp2
    go_ret
    exact ⟨ret_b hd.out.symm, rfl⟩

theorem hp_0 {b : Int} : hp 48 b = dg b := by
  unfold hp dg d2
  by_cases h : 48 ≤ b ∧ b ≤ 57
  · rw [if_pos ⟨by omega, by omega, h.1, h.2⟩]; simp [h]; omega
  · rw [if_neg (by omega)]; simp; omega
theorem hp_1 {b : Int} : hp 49 b = dg b := by
  unfold hp dg d2
  by_cases h : 48 ≤ b ∧ b ≤ 57
  · rw [if_pos ⟨by omega, by omega, h.1, h.2⟩]; simp [h]; omega
  · rw [if_neg (by omega)]; simp; omega
theorem hp_2 {b : Int} (h : 48 ≤ b) : hp 50 b = decide (b ≤ 51) := by
  unfold hp d2
  by_cases h' : b ≤ 57
  · rw [if_pos ⟨by omega, by omega, h, h'⟩]; simp; rw [Bool.eq_iff_iff]; simp; omega
  · rw [if_neg (by omega)]; simp; omega
theorem hp_2' {b : Int} (h : ¬ 48 ≤ b) : hp 50 b = false := by
  unfold hp d2
  rw [if_neg (by omega)]; simp
theorem hp_x {a b : Int} (h0 : a ≠ 48) (h1 : a ≠ 49) (h2 : a ≠ 50) : hp a b = false := by
  unfold hp d2
  by_cases h : 48 ≤ a ∧ a ≤ 57 ∧ 48 ≤ b ∧ b ≤ 57
  · rw [if_pos h]; simp; omega
  · rw [if_neg h]; simp

set_option maxHeartbeats 800000 in
theorem hourPair_any (a b : Int) (w : World) : Calls Trym.prog 16 #[.int .u8 a, .int .u8 b] w fun x w' => x = .returned (.bool (hp a b)) ∧ w' = w := by
  by_cases h0 : a = 48
  · subst h0
    have hd : Hid (hp 48 b = dg b) := hp_0
    go_enter Trym.func16, Trym.ntmps16
    go_wp2_with (go_at_call 17; refine (isDigit_any _ _).mono ?_; rintro e w' ⟨rfl, rfl⟩)
    go_ret
    exact ⟨ret_b hd.out.symm, rfl⟩
  · by_cases h1 : a = 49
    · subst h1
      have hd : Hid (hp 49 b = dg b) := hp_1
      go_enter Trym.func16, Trym.ntmps16
      go_wp2_with (go_at_call 17; refine (isDigit_any _ _).mono ?_; rintro e w' ⟨rfl, rfl⟩)
      go_ret
      exact ⟨ret_b hd.out.symm, rfl⟩
    · by_cases h2 : a = 50
      · subst h2
        by_cases h3 : 48 ≤ b
        · have hd : Hid (hp 50 b = decide (b ≤ 51)) := hp_2 h3
          go_enter Trym.func16, Trym.ntmps16
          go_wp2
          go_ret
          exact ⟨ret_b hd.out.symm, rfl⟩
        · have hd : Hid (hp 50 b = false) := hp_2' h3
          go_enter Trym.func16, Trym.ntmps16
          go_wp2
          go_ret
          exact ⟨ret_b hd.out.symm, rfl⟩
      · have hd : Hid (hp a b = false) := hp_x h0 h1 h2
        have g0 : (a == 48) = false := beq_eq_false_iff_ne.2 h0
        have g1 : (a == 49) = false := beq_eq_false_iff_ne.2 h1
        have g2 : (a == 50) = false := beq_eq_false_iff_ne.2 h2
        clear h0 h1 h2
        go_enter Trym.func16, Trym.ntmps16
        go_wp2
        go_ret
        exact ⟨ret_b hd.out.symm, rfl⟩

theorem hp_yes {a b : Int} (h : hp a b = true) : 48 ≤ a ∧ a ≤ 50 ∧ 48 ≤ b ∧ b ≤ 57 ∧ 0 ≤ d2 a b ∧ d2 a b ≤ 23 ∧ d2 a b = (a - 48) * 10 + (b - 48) := by
  unfold hp at h
  simp at h
  by_cases hd : 48 ≤ a ∧ a ≤ 57 ∧ 48 ≤ b ∧ b ≤ 57
  · have e := d2_yes hd.1 hd.2.1 hd.2.2.1 hd.2.2.2
    omega
  · rw [d2_no hd] at h
    omega
theorem hp_nope {a b : Int} (h : hp a b = false) : ¬ (0 ≤ d2 a b ∧ d2 a b ≤ 23) := by
  intro h'
  simp [hp, h'] at h

set_option maxHeartbeats 3200000 in
theorem mod3 (s a b : UInt8) (w : World) :
    Calls Trym.prog 9 #[.string ⟨#[s, a, b]⟩] w fun x w' => x = .returned (.tuple #[.int .i64 (o3 s.toNat a.toNat b.toNat).1, .bool (o3 s.toNat a.toNat b.toNat).2]) ∧ ∃ n, w' = w.drewN n := by
  have e0 : (⟨#[s, a, b]⟩ : ByteArray)[0]'(show 0 < 3 from by omega) = s := rfl
  have e1 : (⟨#[s, a, b]⟩ : ByteArray)[1]'(show 1 < 3 from by omega) = a := rfl
  have e2 : (⟨#[s, a, b]⟩ : ByteArray)[2]'(show 2 < 3 from by omega) = b := rfl
  have tl : (⟨#[s, a, b]⟩ : ByteArray).toList = [s, a, b] := by simp [ByteArray.toList_eq]
  have sgn : (s.toNat : Int) = 45 ∨ (s.toNat : Int) = 43 ∨ ((s.toNat : Int) ≠ 45 ∧ (s.toNat : Int) ≠ 43) := by omega
  rcases sgn with hs | hs | ⟨hs, hs'⟩
  · have hs1 : ((s.toNat : Int) == 45) = true := by rw [hs]; rfl
    have hs2 : ((s.toNat : Int) == 43) = false := by rw [hs]; rfl
    have hs3 : ((s.toNat : Int) != 45) = false := by rw [hs]; rfl
    have hs4 : ((s.toNat : Int) != 43) = true := by rw [hs]; rfl
    by_cases hh : hp a.toNat b.toNat = true
    · obtain ⟨q1, q2, q3, q4, q5, q6, q7⟩ := hp_yes hh
      have hr : Hid (o3 s.toNat a.toNat b.toNat = (-((((a.toNat : Int) - 48) * 10 + ((b.toNat : Int) - 48)) * 60), true)) := by
        show _ = _
        rw [o3_yes (.inr hs) q5 q6, hs, sg_minus, q7]
      clear q5 q6 q7 hs
      generalize o3 s.toNat a.toNat b.toNat = r at hr
      go_enter Trym.func9, Trym.ntmps9
      go_wp2
      go_quiet ((go_at_call 16; exact Calls.quiet_of_same (hourPair_any _ _ _)))
      rw [hh]
      go_wp2
      go_quiet (fail)
      go_wp2
      go_ret2
      rw [hr.out]
      exact ⟨rfl, ⟨_, rfl⟩⟩
    · have hh : hp a.toNat b.toNat = false := by simpa using hh
      have hr : Hid (o3 s.toNat a.toNat b.toNat = (0, false)) := o3_no (fun h => hp_nope hh h.2)
      clear hs
      generalize o3 s.toNat a.toNat b.toNat = r at hr
      go_enter Trym.func9, Trym.ntmps9
      go_wp2
      go_quiet ((go_at_call 16; exact Calls.quiet_of_same (hourPair_any _ _ _)))
      rw [hh]
      go_wp2
      go_ret2
      rw [hr.out]
      exact ⟨rfl, ⟨_, rfl⟩⟩
  · have hs1 : ((s.toNat : Int) == 45) = false := by rw [hs]; rfl
    have hs2 : ((s.toNat : Int) == 43) = true := by rw [hs]; rfl
    have hs3 : ((s.toNat : Int) != 45) = true := by rw [hs]; rfl
    have hs4 : ((s.toNat : Int) != 43) = false := by rw [hs]; rfl
    by_cases hh : hp a.toNat b.toNat = true
    · obtain ⟨q1, q2, q3, q4, q5, q6, q7⟩ := hp_yes hh
      have hr : Hid (o3 s.toNat a.toNat b.toNat = ((((a.toNat : Int) - 48) * 10 + ((b.toNat : Int) - 48)) * 60, true)) := by
        show _ = _
        rw [o3_yes (.inl hs) q5 q6, hs, sg_plus, q7]
      clear q5 q6 q7 hs
      generalize o3 s.toNat a.toNat b.toNat = r at hr
      go_enter Trym.func9, Trym.ntmps9
      go_wp2
      go_quiet ((go_at_call 16; exact Calls.quiet_of_same (hourPair_any _ _ _)))
      rw [hh]
      go_wp2
      go_quiet (fail)
      go_wp2
      go_ret2
      rw [hr.out]
      exact ⟨rfl, ⟨_, rfl⟩⟩
    · have hh : hp a.toNat b.toNat = false := by simpa using hh
      have hr : Hid (o3 s.toNat a.toNat b.toNat = (0, false)) := o3_no (fun h => hp_nope hh h.2)
      clear hs
      generalize o3 s.toNat a.toNat b.toNat = r at hr
      go_enter Trym.func9, Trym.ntmps9
      go_wp2
      go_quiet ((go_at_call 16; exact Calls.quiet_of_same (hourPair_any _ _ _)))
      rw [hh]
      go_wp2
      go_ret2
      rw [hr.out]
      exact ⟨rfl, ⟨_, rfl⟩⟩
  · have hs1 : ((s.toNat : Int) == 45) = false := beq_eq_false_iff_ne.2 hs
    have hs2 : ((s.toNat : Int) == 43) = false := beq_eq_false_iff_ne.2 hs'
    have hs3 : ((s.toNat : Int) != 45) = true := bne_iff_ne.2 hs
    have hs4 : ((s.toNat : Int) != 43) = true := bne_iff_ne.2 hs'
    have hr : Hid (o3 s.toNat a.toNat b.toNat = (0, false)) := o3_no (fun h => by omega)
    clear hs hs'
    generalize o3 s.toNat a.toNat b.toNat = r at hr
    go_enter Trym.func9, Trym.ntmps9
    go_wp2
    go_ret2
    rw [hr.out]
    exact ⟨rfl, ⟨0, rfl⟩⟩

theorem mm_yes {d e : Int} (h1 : 48 ≤ d) (h2 : d ≤ 53) (h3 : dg e = true) : 48 ≤ e ∧ e ≤ 57 ∧ 0 ≤ d2 d e ∧ d2 d e ≤ 59 ∧ d2 d e = (d - 48) * 10 + (e - 48) := by
  simp [dg] at h3
  have q := d2_yes h1 (by omega) h3.1 h3.2
  omega
theorem mm_no {d e : Int} (h : 0 ≤ d2 d e ∧ d2 d e ≤ 59) : 48 ≤ d ∧ d ≤ 53 ∧ dg e = true := by
  by_cases hd : 48 ≤ d ∧ d ≤ 57 ∧ 48 ≤ e ∧ e ≤ 57
  · have q := d2_yes hd.1 hd.2.1 hd.2.2.1 hd.2.2.2
    refine ⟨by omega, by omega, ?_⟩
    simp [dg, hd]
  · rw [d2_no hd] at h
    omega

set_option maxHeartbeats 6400000 in
set_option maxRecDepth 100000 in
theorem mod6 (s a b c d e : UInt8) (w : World) :
    Calls Trym.prog 9 #[.string ⟨#[s, a, b, c, d, e]⟩] w fun x w' => x = .returned (.tuple #[.int .i64 (o6 s.toNat a.toNat b.toNat c.toNat d.toNat e.toNat).1, .bool (o6 s.toNat a.toNat b.toNat c.toNat d.toNat e.toNat).2]) ∧ ∃ n, w' = w.drewN n := by
  have e0 : (⟨#[s, a, b, c, d, e]⟩ : ByteArray)[0]'(show 0 < 6 from by omega) = s := rfl
  have e1 : (⟨#[s, a, b, c, d, e]⟩ : ByteArray)[1]'(show 1 < 6 from by omega) = a := rfl
  have e2 : (⟨#[s, a, b, c, d, e]⟩ : ByteArray)[2]'(show 2 < 6 from by omega) = b := rfl
  have e3 : (⟨#[s, a, b, c, d, e]⟩ : ByteArray)[3]'(show 3 < 6 from by omega) = c := rfl
  have e4 : (⟨#[s, a, b, c, d, e]⟩ : ByteArray)[4]'(show 4 < 6 from by omega) = d := rfl
  have e5 : (⟨#[s, a, b, c, d, e]⟩ : ByteArray)[5]'(show 5 < 6 from by omega) = e := rfl
  have tl : (⟨#[s, a, b, c, d, e]⟩ : ByteArray).toList = [s, a, b, c, d, e] := by simp [ByteArray.toList_eq]
  have sgn : (s.toNat : Int) = 45 ∨ (s.toNat : Int) = 43 ∨ ((s.toNat : Int) ≠ 45 ∧ (s.toNat : Int) ≠ 43) := by omega
  rcases sgn with hs | hs | ⟨hs, hs'⟩
  · have hs1 : ((s.toNat : Int) == 45) = true := by rw [hs]; rfl
    have hs2 : ((s.toNat : Int) == 43) = false := by rw [hs]; rfl
    have hs3 : ((s.toNat : Int) != 45) = false := by rw [hs]; rfl
    have hs4 : ((s.toNat : Int) != 43) = true := by rw [hs]; rfl
    by_cases hh : hp a.toNat b.toNat = true
    · obtain ⟨q1, q2, q3, q4, q5, q6, q7⟩ := hp_yes hh
      by_cases hall : (c.toNat : Int) = 58 ∧ 48 ≤ (d.toNat : Int) ∧ (d.toNat : Int) ≤ 53 ∧ dg e.toNat = true
      · obtain ⟨hc, p1, p2, p3⟩ := hall
        obtain ⟨p4, p5, p6, p7, p8⟩ := mm_yes p1 p2 p3
        have hr : Hid (o6 s.toNat a.toNat b.toNat c.toNat d.toNat e.toNat = (-((((a.toNat : Int) - 48) * 10 + ((b.toNat : Int) - 48)) * 60 + (((d.toNat : Int) - 48) * 10 + ((e.toNat : Int) - 48))), true)) := by
          show _ = _
          unfold o6
          rw [if_pos ⟨.inr hs, hc, q5, q6, p6, p7⟩, hs, sg_minus, q7, p8]
        have hc1 : ((c.toNat : Int) != 58) = false := by rw [hc]; rfl
        clear q5 q6 q7 hs hc p6 p7 p8
        generalize o6 s.toNat a.toNat b.toNat c.toNat d.toNat e.toNat = r at hr
        go_enter Trym.func9, Trym.ntmps9
        go_wp2
        go_quiet ((go_at_call 16; exact Calls.quiet_of_same (hourPair_any _ _ _)))
        rw [hh]
        go_wp2_with fail
        refine (isDigit_any _ _).mono ?_
        rintro e' w' ⟨rfl, rfl⟩
        rw [p3]
        go_wp2
        go_quiet (fail)
        go_wp2
        go_quiet (fail)
        go_wp2
        go_ret2
        rw [hr.out]
        exact ⟨rfl, ⟨_, rfl⟩⟩
      · have hr : Hid (o6 s.toNat a.toNat b.toNat c.toNat d.toNat e.toNat = (0, false)) := by
          show _ = _
          unfold o6
          rw [if_neg (fun h => hall ⟨h.2.1, mm_no h.2.2.2.2⟩)]
        have hcs : ((c.toNat : Int) != 58) = true ∨ (((c.toNat : Int) != 58) = false ∧ (d.toNat : Int) < 48) ∨ (((c.toNat : Int) != 58) = false ∧ 48 ≤ (d.toNat : Int) ∧ 53 < (d.toNat : Int)) ∨ (((c.toNat : Int) != 58) = false ∧ 48 ≤ (d.toNat : Int) ∧ (d.toNat : Int) ≤ 53 ∧ dg e.toNat = false) := by
          by_cases hc : (c.toNat : Int) = 58
          · have hc1 : ((c.toNat : Int) != 58) = false := by rw [hc]; rfl
            by_cases p1 : 48 ≤ (d.toNat : Int)
            · by_cases p2 : (d.toNat : Int) ≤ 53
              · refine .inr (.inr (.inr ⟨hc1, p1, p2, ?_⟩))
                cases hd : dg e.toNat with
                | false => rfl
                | true => exact absurd ⟨hc, p1, p2, hd⟩ hall
              · exact .inr (.inr (.inl ⟨hc1, p1, by omega⟩))
            · exact .inr (.inl ⟨hc1, by omega⟩)
          · exact .inl (bne_iff_ne.2 hc)
        clear q5 q6 q7 hs hall
        generalize o6 s.toNat a.toNat b.toNat c.toNat d.toNat e.toNat = r at hr
        rcases hcs with hc1 | ⟨hc1, p1⟩ | ⟨hc1, p1, p2⟩ | ⟨hc1, p1, p2, p3⟩
        · go_enter Trym.func9, Trym.ntmps9
          go_wp2
          go_quiet ((go_at_call 16; exact Calls.quiet_of_same (hourPair_any _ _ _)))
          rw [hh]
          go_wp2
          go_ret2
          rw [hr.out]
          exact ⟨rfl, ⟨_, rfl⟩⟩
        · go_enter Trym.func9, Trym.ntmps9
          go_wp2
          go_quiet ((go_at_call 16; exact Calls.quiet_of_same (hourPair_any _ _ _)))
          rw [hh]
          go_wp2
          go_ret2
          rw [hr.out]
          exact ⟨rfl, ⟨_, rfl⟩⟩
        · go_enter Trym.func9, Trym.ntmps9
          go_wp2
          go_quiet ((go_at_call 16; exact Calls.quiet_of_same (hourPair_any _ _ _)))
          rw [hh]
          go_wp2
          go_ret2
          rw [hr.out]
          exact ⟨rfl, ⟨_, rfl⟩⟩
        · go_enter Trym.func9, Trym.ntmps9
          go_wp2
          go_quiet ((go_at_call 16; exact Calls.quiet_of_same (hourPair_any _ _ _)))
          rw [hh]
          go_wp2_with fail
          refine (isDigit_any _ _).mono ?_
          rintro e' w' ⟨rfl, rfl⟩
          rw [p3]
          go_wp2
          go_ret2
          rw [hr.out]
          exact ⟨rfl, ⟨_, rfl⟩⟩
    · have hh : hp a.toNat b.toNat = false := by simpa using hh
      have hr : Hid (o6 s.toNat a.toNat b.toNat c.toNat d.toNat e.toNat = (0, false)) := by
        show _ = _
        unfold o6
        rw [if_neg (fun h => hp_nope hh ⟨h.2.2.1, h.2.2.2.1⟩)]
      clear hs
      generalize o6 s.toNat a.toNat b.toNat c.toNat d.toNat e.toNat = r at hr
      go_enter Trym.func9, Trym.ntmps9
      go_wp2
      go_quiet ((go_at_call 16; exact Calls.quiet_of_same (hourPair_any _ _ _)))
      rw [hh]
      go_wp2
      go_ret2
      rw [hr.out]
      exact ⟨rfl, ⟨_, rfl⟩⟩
  · have hs1 : ((s.toNat : Int) == 45) = false := by rw [hs]; rfl
    have hs2 : ((s.toNat : Int) == 43) = true := by rw [hs]; rfl
    have hs3 : ((s.toNat : Int) != 45) = true := by rw [hs]; rfl
    have hs4 : ((s.toNat : Int) != 43) = false := by rw [hs]; rfl
    by_cases hh : hp a.toNat b.toNat = true
    · obtain ⟨q1, q2, q3, q4, q5, q6, q7⟩ := hp_yes hh
      by_cases hall : (c.toNat : Int) = 58 ∧ 48 ≤ (d.toNat : Int) ∧ (d.toNat : Int) ≤ 53 ∧ dg e.toNat = true
      · obtain ⟨hc, p1, p2, p3⟩ := hall
        obtain ⟨p4, p5, p6, p7, p8⟩ := mm_yes p1 p2 p3
        have hr : Hid (o6 s.toNat a.toNat b.toNat c.toNat d.toNat e.toNat = ((((a.toNat : Int) - 48) * 10 + ((b.toNat : Int) - 48)) * 60 + (((d.toNat : Int) - 48) * 10 + ((e.toNat : Int) - 48)), true)) := by
          show _ = _
          unfold o6
          rw [if_pos ⟨.inl hs, hc, q5, q6, p6, p7⟩, hs, sg_plus, q7, p8]
        have hc1 : ((c.toNat : Int) != 58) = false := by rw [hc]; rfl
        clear q5 q6 q7 hs hc p6 p7 p8
        generalize o6 s.toNat a.toNat b.toNat c.toNat d.toNat e.toNat = r at hr
        go_enter Trym.func9, Trym.ntmps9
        go_wp2
        go_quiet ((go_at_call 16; exact Calls.quiet_of_same (hourPair_any _ _ _)))
        rw [hh]
        go_wp2_with fail
        refine (isDigit_any _ _).mono ?_
        rintro e' w' ⟨rfl, rfl⟩
        rw [p3]
        go_wp2
        go_quiet (fail)
        go_wp2
        go_quiet (fail)
        go_wp2
        go_ret2
        rw [hr.out]
        exact ⟨rfl, ⟨_, rfl⟩⟩
      · have hr : Hid (o6 s.toNat a.toNat b.toNat c.toNat d.toNat e.toNat = (0, false)) := by
          show _ = _
          unfold o6
          rw [if_neg (fun h => hall ⟨h.2.1, mm_no h.2.2.2.2⟩)]
        have hcs : ((c.toNat : Int) != 58) = true ∨ (((c.toNat : Int) != 58) = false ∧ (d.toNat : Int) < 48) ∨ (((c.toNat : Int) != 58) = false ∧ 48 ≤ (d.toNat : Int) ∧ 53 < (d.toNat : Int)) ∨ (((c.toNat : Int) != 58) = false ∧ 48 ≤ (d.toNat : Int) ∧ (d.toNat : Int) ≤ 53 ∧ dg e.toNat = false) := by
          by_cases hc : (c.toNat : Int) = 58
          · have hc1 : ((c.toNat : Int) != 58) = false := by rw [hc]; rfl
            by_cases p1 : 48 ≤ (d.toNat : Int)
            · by_cases p2 : (d.toNat : Int) ≤ 53
              · refine .inr (.inr (.inr ⟨hc1, p1, p2, ?_⟩))
                cases hd : dg e.toNat with
                | false => rfl
                | true => exact absurd ⟨hc, p1, p2, hd⟩ hall
              · exact .inr (.inr (.inl ⟨hc1, p1, by omega⟩))
            · exact .inr (.inl ⟨hc1, by omega⟩)
          · exact .inl (bne_iff_ne.2 hc)
        clear q5 q6 q7 hs hall
        generalize o6 s.toNat a.toNat b.toNat c.toNat d.toNat e.toNat = r at hr
        rcases hcs with hc1 | ⟨hc1, p1⟩ | ⟨hc1, p1, p2⟩ | ⟨hc1, p1, p2, p3⟩
        · go_enter Trym.func9, Trym.ntmps9
          go_wp2
          go_quiet ((go_at_call 16; exact Calls.quiet_of_same (hourPair_any _ _ _)))
          rw [hh]
          go_wp2
          go_ret2
          rw [hr.out]
          exact ⟨rfl, ⟨_, rfl⟩⟩
        · go_enter Trym.func9, Trym.ntmps9
          go_wp2
          go_quiet ((go_at_call 16; exact Calls.quiet_of_same (hourPair_any _ _ _)))
          rw [hh]
          go_wp2
          go_ret2
          rw [hr.out]
          exact ⟨rfl, ⟨_, rfl⟩⟩
        · go_enter Trym.func9, Trym.ntmps9
          go_wp2
          go_quiet ((go_at_call 16; exact Calls.quiet_of_same (hourPair_any _ _ _)))
          rw [hh]
          go_wp2
          go_ret2
          rw [hr.out]
          exact ⟨rfl, ⟨_, rfl⟩⟩
        · go_enter Trym.func9, Trym.ntmps9
          go_wp2
          go_quiet ((go_at_call 16; exact Calls.quiet_of_same (hourPair_any _ _ _)))
          rw [hh]
          go_wp2_with fail
          refine (isDigit_any _ _).mono ?_
          rintro e' w' ⟨rfl, rfl⟩
          rw [p3]
          go_wp2
          go_ret2
          rw [hr.out]
          exact ⟨rfl, ⟨_, rfl⟩⟩
    · have hh : hp a.toNat b.toNat = false := by simpa using hh
      have hr : Hid (o6 s.toNat a.toNat b.toNat c.toNat d.toNat e.toNat = (0, false)) := by
        show _ = _
        unfold o6
        rw [if_neg (fun h => hp_nope hh ⟨h.2.2.1, h.2.2.2.1⟩)]
      clear hs
      generalize o6 s.toNat a.toNat b.toNat c.toNat d.toNat e.toNat = r at hr
      go_enter Trym.func9, Trym.ntmps9
      go_wp2
      go_quiet ((go_at_call 16; exact Calls.quiet_of_same (hourPair_any _ _ _)))
      rw [hh]
      go_wp2
      go_ret2
      rw [hr.out]
      exact ⟨rfl, ⟨_, rfl⟩⟩
  · have hs1 : ((s.toNat : Int) == 45) = false := beq_eq_false_iff_ne.2 hs
    have hs2 : ((s.toNat : Int) == 43) = false := beq_eq_false_iff_ne.2 hs'
    have hs3 : ((s.toNat : Int) != 45) = true := bne_iff_ne.2 hs
    have hs4 : ((s.toNat : Int) != 43) = true := bne_iff_ne.2 hs'
    have hr : Hid (o6 s.toNat a.toNat b.toNat c.toNat d.toNat e.toNat = (0, false)) := by
      show _ = _
      unfold o6
      rw [if_neg (fun h => by omega)]
    clear hs hs'
    generalize o6 s.toNat a.toNat b.toNat c.toNat d.toNat e.toNat = r at hr
    go_enter Trym.func9, Trym.ntmps9
    go_wp2
    go_ret2
    rw [hr.out]
    exact ⟨rfl, ⟨0, rfl⟩⟩

end Go.Proofs.Qxb6602889aMods
