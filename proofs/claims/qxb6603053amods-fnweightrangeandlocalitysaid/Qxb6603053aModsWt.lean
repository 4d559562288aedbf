import Derived.Test.Qxb6603053aModsRows
import Derived.WalkKit
import Derived.ProofKit
import Derived.OpenShut
import Derived.ShutString
import Derived.ChangeOld
import Derived.Below
import Derived.WalkSpells
import Derived.WalkSmall
import Derived.Deep.QuietTactic
import Derived.BigQuiet
namespace Go.Proofs.Qxb6603053aMods
open Go.ChangeShapes Go.WideShapes Go.ChangeAt Go.RowKit
set_option linter.unusedVariables false
set_option linter.unusedSimpArgs false

theorem hid {p : Prop} (h : p) : Hid p := h
theorem ret_int {k : IntKind} {a b : Int} (h : a = b) : Ending.returned (.int k a) = .returned (.int k b) := by rw [h]

/-- The rank of a byte. -/
def wt (c : Int) : Int := if c = 126 then -1 else if (97 ≤ c ∧ c ≤ 122) ∨ (65 ≤ c ∧ c ≤ 90) then c else c + 256

theorem wt_tilde : wt 126 = -1 := by simp [wt]
theorem wt_low {c : Int} (h1 : 97 ≤ c) (h2 : c ≤ 122) : wt c = c := by unfold wt; rw [if_neg (by omega), if_pos (.inl ⟨h1, h2⟩)]
theorem wt_up {c : Int} (h1 : 65 ≤ c) (h2 : c ≤ 90) : wt c = c := by unfold wt; rw [if_neg (by omega), if_pos (.inr ⟨h1, h2⟩)]
theorem wt_else {c : Int} (h : c ≠ 126) (h' : ¬ ((97 ≤ c ∧ c ≤ 122) ∨ (65 ≤ c ∧ c ≤ 90))) : wt c = c + 256 := by unfold wt; rw [if_neg h, if_neg h']

set_option maxHeartbeats 800000 in
theorem weight_in (s : ByteArray) (k : Nat) (h : k < s.size) (hs : s.size ≤ 1048576) (w : World) :
    Calls Trym.prog 24 #[.string s, .int .i64 k] w fun x w' => x = .returned (.int .i64 (wt (s[k]).toNat)) ∧ w' = w := by
  have hb : ((s[k]).toNat : Int) ≤ 255 := by have := (s[k]).toNat_lt; omega
  by_cases h1 : ((s[k]).toNat : Int) = 126
  · have hr : Hid (wt (s[k]).toNat = -1) := by show _ = _; rw [h1, wt_tilde]
    have g1 : (((s[k]).toNat : Int) == 126) = true := by rw [h1]; rfl
    clear h1
    go_enter Trym.func24, Trym.ntmps24
    go_wp2
    go_ret
    exact ⟨ret_int hr.out.symm, rfl⟩
  · have g1 : (((s[k]).toNat : Int) == 126) = false := beq_eq_false_iff_ne.2 h1
    have hc : (97 ≤ ((s[k]).toNat : Int) ∧ ((s[k]).toNat : Int) ≤ 122 ∧ Hid (wt (s[k]).toNat = (s[k]).toNat)) ∨ (65 ≤ ((s[k]).toNat : Int) ∧ ((s[k]).toNat : Int) ≤ 90 ∧ Hid (wt (s[k]).toNat = (s[k]).toNat)) ∨
        (122 < ((s[k]).toNat : Int) ∧ Hid (wt (s[k]).toNat = (s[k]).toNat + 256)) ∨ (90 < ((s[k]).toNat : Int) ∧ ((s[k]).toNat : Int) < 97 ∧ Hid (wt (s[k]).toNat = (s[k]).toNat + 256)) ∨ (((s[k]).toNat : Int) < 65 ∧ Hid (wt (s[k]).toNat = (s[k]).toNat + 256)) := by
      by_cases a1 : 97 ≤ ((s[k]).toNat : Int) ∧ ((s[k]).toNat : Int) ≤ 122
      · exact .inl ⟨a1.1, a1.2, wt_low a1.1 a1.2⟩
      · by_cases a2 : 65 ≤ ((s[k]).toNat : Int) ∧ ((s[k]).toNat : Int) ≤ 90
        · exact .inr (.inl ⟨a2.1, a2.2, wt_up a2.1 a2.2⟩)
        · have hw := hid (wt_else h1 (fun h => h.elim a1 a2))
          by_cases a3 : 122 < ((s[k]).toNat : Int)
          · exact .inr (.inr (.inl ⟨a3, hw⟩))
          · by_cases a4 : ((s[k]).toNat : Int) < 65
            · exact .inr (.inr (.inr (.inr ⟨a4, hw⟩)))
            · exact .inr (.inr (.inr (.inl ⟨by omega, by omega, hw⟩)))
    clear h1
    rcases hc with ⟨q1, q2, hr⟩ | ⟨q1, q2, hr⟩ | ⟨q1, hr⟩ | ⟨q1, q2, hr⟩ | ⟨q1, hr⟩
    all_goals go_enter Trym.func24, Trym.ntmps24
    all_goals go_wp2
    all_goals go_ret
    all_goals exact ⟨ret_int hr.out.symm, rfl⟩

set_option maxHeartbeats 400000 in
theorem weight_out (s : ByteArray) (i : Int) (h : (s.size : Int) ≤ i) (w : World) :
    Calls Trym.prog 24 #[.string s, .int .i64 i] w fun x w' => x = .returned (.int .i64 0) ∧ w' = w := by
  go_enter Trym.func24, Trym.ntmps24
  go_wp2
  go_ret
  exact ⟨rfl, rfl⟩

set_option maxHeartbeats 400000 in
theorem zz_out (s : ByteArray) (i : Int) (h : (s.size : Int) ≤ i) (w : World) :
    Calls Trym.prog 9 #[.string s, .int .i64 i] w fun x w' => x = .returned (.int .i64 0) ∧ w' = w := by
  go_enter Trym.func9, Trym.ntmps9
  go_wp2_with fail
  refine (weight_out s i h _).mono ?_
  rintro e w ⟨rfl, rfl⟩
  go_wp2
  go_ret
  exact ⟨rfl, rfl⟩

set_option maxHeartbeats 400000 in
theorem zz_at (s : ByteArray) (k : Nat) (i v : Int) (hi : i = k) (h : k < s.size) (hs : s.size ≤ 1048576) (hv : wt (s[k]).toNat = v) (w : World) :
    Calls Trym.prog 9 #[.string s, .int .i64 i] w fun x w' => x = .returned (.int .i64 v) ∧ w' = w := by
  subst hi
  subst hv
  have H := hid (weight_in s k h hs w)
  go_enter Trym.func9, Trym.ntmps9
  go_wp2_with fail
  refine Calls.mono H.out ?_
  rintro e w ⟨rfl, rfl⟩
  go_wp2
  go_ret
  exact ⟨rfl, rfl⟩

theorem cut_one (s : ByteArray) (k : Nat) (h : k < s.size) : ∃ h' : 0 < (s.extract k (k + 1)).size, (s.extract k (k + 1))[0]'h' = s[k] := by
  have hsz : (s.extract k (k + 1)).size = 1 := by rw [ByteArray.size_extract]; omega
  refine ⟨by omega, ?_⟩
  rw [ByteArray.getElem_extract]
  simp
theorem cut_upto (s : ByteArray) (k : Nat) (h : k < s.size) : ∃ h' : k < (s.extract 0 (k + 1)).size, (s.extract 0 (k + 1))[k]'h' = s[k] := by
  have hsz : (s.extract 0 (k + 1)).size = k + 1 := by rw [ByteArray.size_extract]; omega
  refine ⟨by omega, ?_⟩
  rw [ByteArray.getElem_extract]
  simp

set_option maxHeartbeats 400000 in
theorem bytes8_any (s : ByteArray) (i : Int) (w : World) (h0 : s.size ≤ maxLen) :
    Calls Trym.prog 8 #[.string s, .int .i64 i] w fun e w' => e = .returned (.bool (decide (s.size ≤ 1048576))) ∧ w' = w := by
  unfold maxLen at h0
  by_cases hs : s.size ≤ 1048576
  · go_enter Trym.func8, Trym.ntmps8
    go_wp2
    go_ret
    exact ⟨by simp [hs], rfl⟩
  · go_enter Trym.func8, Trym.ntmps8
    go_wp2
    go_ret
    exact ⟨by simp [hs], rfl⟩

theorem wt_is {c : Int} (h0 : 0 ≤ c) (h1 : c ≤ 255) : (c = 126 ∧ wt c = -1) ∨ (c ≠ 126 ∧ 0 < wt c ∧ wt c ≤ 511) := by
  by_cases h : c = 126
  · subst h; exact .inl ⟨rfl, wt_tilde⟩
  · right
    refine ⟨h, ?_⟩
    unfold wt
    rw [if_neg h]
    split <;> omega

set_option maxHeartbeats 1600000 in
theorem law_walk (s : ByteArray) (i : Int) (w0 : s.size ≤ maxLen) (w : World) :
    Calls Trym.prog 3 #[.string s, .int .i64 i] w fun e w' => e = .returned (.bool true) ∧ w' = w := by
  by_cases hs : s.size ≤ 1048576
  · have hby : decide (s.size ≤ 1048576) = true := by simpa using hs
    by_cases hi : i < 0
    · go_enter Trym.func3, Trym.ntmps3
      go_wp2_with fail
      refine (bytes8_any _ _ _ w0).mono ?_
      rintro e w ⟨rfl, rfl⟩
      rw [hby]
      go_wp2_with fail
      go_ret
      exact ⟨rfl, rfl⟩
    · by_cases hl : (s.size : Int) ≤ i
      · go_enter Trym.func3, Trym.ntmps3
        go_wp2_with fail
        refine (bytes8_any _ _ _ w0).mono ?_
        rintro e w ⟨rfl, rfl⟩
        rw [hby]
        go_wp2_with fail
        refine (zz_out s i hl _).mono ?_
        rintro e w ⟨rfl, rfl⟩
        go_wp2_with fail
        go_ret
        exact ⟨rfl, rfl⟩
      · obtain ⟨k, rfl⟩ := Int.eq_ofNat_of_zero_le (Int.not_lt.1 hi)
        have hk : k < s.size := by omega
        have hb : ((s[k]).toNat : Int) ≤ 255 := by have := (s[k]).toNat_lt; omega
        obtain ⟨z1, q1⟩ := cut_one s k hk
        obtain ⟨z2, q2⟩ := cut_upto s k hk
        have sz1 : (s.extract k (k + 1)).size ≤ 1048576 := by rw [ByteArray.size_extract]; omega
        have sz2 : (s.extract 0 (k + 1)).size ≤ 1048576 := by rw [ByteArray.size_extract]; omega
        have hw := wt_is (c := (s[k]).toNat) (by omega) hb
        have H1 : Hid (∀ w, Calls Trym.prog 9 #[.string s, .int .i64 k] w fun x w' => x = .returned (.int .i64 (wt (s[k]).toNat)) ∧ w' = w) := fun w => zz_at s k k _ rfl hk hs rfl w
        have H2 : Hid (∀ w, Calls Trym.prog 9 #[.string (s.extract k (k + 1)), .int .i64 0] w fun x w' => x = .returned (.int .i64 (wt (s[k]).toNat)) ∧ w' = w) := fun w => zz_at _ 0 0 _ rfl z1 sz1 (by rw [q1]) w
        have H3 : Hid (∀ w, Calls Trym.prog 9 #[.string (s.extract 0 (k + 1)), .int .i64 k] w fun x w' => x = .returned (.int .i64 (wt (s[k]).toNat)) ∧ w' = w) := fun w => zz_at _ k k _ rfl z2 sz2 (by rw [q2]) w
        clear z1 q1 z2 q2 sz1 sz2
        have hcs : ((((s[k]).toNat : Int) == 126) = true ∧ wt (s[k]).toNat = -1) ∨ ((((s[k]).toNat : Int) == 126) = false ∧ 0 < wt (s[k]).toNat ∧ wt (s[k]).toNat ≤ 511) := by
          rcases hw with ⟨a, b⟩ | ⟨a, b, c⟩
          · exact .inl ⟨by rw [a]; rfl, b⟩
          · exact .inr ⟨beq_eq_false_iff_ne.2 a, b, c⟩
        clear hw
        generalize wt (s[k]).toNat = v at H1 H2 H3 hcs
        rcases hcs with ⟨g1, g2⟩ | ⟨g1, g2, g3⟩
        · subst g2
          go_enter Trym.func3, Trym.ntmps3
          go_wp2_with fail
          refine (bytes8_any _ _ _ w0).mono ?_
          rintro e w ⟨rfl, rfl⟩
          rw [hby]
          go_wp2_with fail
          refine Calls.mono (H1.out _) ?_
          rintro e w ⟨rfl, rfl⟩
          go_wp2_with fail
          refine Calls.mono (H2.out _) ?_
          rintro e w ⟨rfl, rfl⟩
          go_wp2_with fail
          refine Calls.mono (H3.out _) ?_
          rintro e w ⟨rfl, rfl⟩
          go_wp2_with fail
          go_ret
          exact ⟨rfl, rfl⟩
        · have v0 : (v == 0) = false := beq_eq_false_iff_ne.2 (by omega)
          have d1 : decide (s.size ≤ k) = false := by simp; omega
          have d2 : decide (v < 0) = false := by simp; omega
          go_enter Trym.func3, Trym.ntmps3
          go_wp2_with fail
          refine (bytes8_any _ _ _ w0).mono ?_
          rintro e w ⟨rfl, rfl⟩
          rw [hby]
          go_wp2_with fail
          refine Calls.mono (H1.out _) ?_
          rintro e w ⟨rfl, rfl⟩
          go_wp2_with fail
          refine Calls.mono (H2.out _) ?_
          rintro e w ⟨rfl, rfl⟩
          go_wp2_with fail
          refine Calls.mono (H3.out _) ?_
          rintro e w ⟨rfl, rfl⟩
          go_wp2_with fail
          go_ret
          exact ⟨rfl, rfl⟩
  · have hby : decide (s.size ≤ 1048576) = false := by simpa using hs
    go_enter Trym.func3, Trym.ntmps3
    go_wp2_with fail
    refine (bytes8_any _ _ _ w0).mono ?_
    rintro e w ⟨rfl, rfl⟩
    rw [hby]
    go_wp2_with fail
    go_ret
    exact ⟨rfl, rfl⟩

end Go.Proofs.Qxb6603053aMods
