import Derived.Test.Qxb6602889aModsRows
import Derived.WalkKit
import Derived.ProofKit
import Derived.OpenShut
import Derived.ShutString
import Derived.ChangeOld
import Derived.Below
import Derived.WalkSpells
import Derived.WalkSmall
import Derived.Deep.QuietTactic
import Derived.BigQuiet
namespace Go.Proofs.Qxb6602889aMods
open Go.ChangeShapes Go.WideShapes Go.ChangeAt Go.RowKit
set_option linter.unusedVariables false
set_option linter.unusedSimpArgs false

theorem hid {p : Prop} (h : p) : Hid p := h

/-- Two digits' number, or -1. -/
def d2 (a b : Int) : Int := if 48 ≤ a ∧ a ≤ 57 ∧ 48 ≤ b ∧ b ≤ 57 then (a - 48) * 10 + (b - 48) else -1

theorem d2_yes {a b : Int} (h1 : 48 ≤ a) (h2 : a ≤ 57) (h3 : 48 ≤ b) (h4 : b ≤ 57) : d2 a b = (a - 48) * 10 + (b - 48) := by
  unfold d2; rw [if_pos ⟨h1, h2, h3, h4⟩]
theorem d2_no {a b : Int} (h : ¬ (48 ≤ a ∧ a ≤ 57 ∧ 48 ≤ b ∧ b ≤ 57)) : d2 a b = -1 := by unfold d2; rw [if_neg h]
theorem d2_bd (a b : Int) : -1 ≤ d2 a b ∧ d2 a b ≤ 99 := by unfold d2; split <;> omega
theorem ret_int {k : IntKind} {a b : Int} (h : a = b) : Ending.returned (.int k a) = .returned (.int k b) := by rw [h]

set_option maxHeartbeats 1600000 in
theorem digits_any (a b : UInt8) (w : World) :
    Calls Trym.prog 19 #[.string ⟨#[a, b]⟩] w fun e w' => e = .returned (.int .i64 (d2 a.toNat b.toNat)) ∧ w' = w := by
  have ha : (a.toNat : Int) ≤ 255 := by have := a.toNat_lt; omega
  have hb : (b.toNat : Int) ≤ 255 := by have := b.toNat_lt; omega
  have e0 : (⟨#[a, b]⟩ : ByteArray)[0]'(show 0 < 2 from by omega) = a := rfl
  have e1 : (⟨#[a, b]⟩ : ByteArray)[1]'(show 1 < 2 from by omega) = b := rfl
  by_cases h1 : 48 ≤ (a.toNat : Int) ∧ (a.toNat : Int) ≤ 57
  · obtain ⟨h1, h2⟩ := h1
    by_cases h3 : 48 ≤ (b.toNat : Int) ∧ (b.toNat : Int) ≤ 57
    · obtain ⟨h3, h4⟩ := h3
      go_enter Trym.func19, Trym.ntmps19
      go_wp2
      refine wp_loop_rounds 3 ?_
      rw [rounds_succ]
      go_wp2
      rw [rounds_succ]
      go_wp2
      rw [rounds_succ]
      go_wp2
      go_ret
      exact ⟨ret_int (d2_yes h1 h2 h3 h4).symm, rfl⟩
    · have hd : Hid (d2 a.toNat b.toNat = -1) := d2_no (fun h => h3 ⟨h.2.2.1, h.2.2.2⟩)
      have hc : (b.toNat : Int) < 48 ∨ 57 < (b.toNat : Int) := by omega
      clear h3
      rcases hc with hc | hc
      all_goals go_enter Trym.func19, Trym.ntmps19
      all_goals go_wp2
      all_goals refine wp_loop_rounds 3 ?_
      all_goals rw [rounds_succ]
      all_goals go_wp2
      all_goals rw [rounds_succ]
      all_goals go_wp2
      all_goals go_ret
      all_goals exact ⟨ret_int hd.out.symm, rfl⟩
  · have hd : Hid (d2 a.toNat b.toNat = -1) := d2_no (fun h => h1 ⟨h.1, h.2.1⟩)
    have hc : (a.toNat : Int) < 48 ∨ 57 < (a.toNat : Int) := by omega
    clear h1
    rcases hc with hc | hc
    all_goals go_enter Trym.func19, Trym.ntmps19
    all_goals go_wp2
    all_goals refine wp_loop_rounds 3 ?_
    all_goals rw [rounds_succ]
    all_goals go_wp2
    all_goals go_ret
    all_goals exact ⟨ret_int hd.out.symm, rfl⟩

/-- hoursAndMinutes on five bytes. -/
def hmOk (h m : Int) : Bool := decide (0 ≤ h) && decide (0 ≤ m) && decide (m ≤ 59)

theorem hmOk1 {h m : Int} (h1 : 0 ≤ h) (h2 : 0 ≤ m) : decide (m ≤ 59) = hmOk h m := by simp [hmOk, h1, h2]
theorem hmOk2 {h m : Int} (h1 : 0 ≤ h) (h2 : m < 0) : false = hmOk h m := by simp [hmOk]; omega
theorem hmOk3 {h m : Int} (h1 : h < 0) : false = hmOk h m := by simp [hmOk]; omega
theorem ret3 {a b a' b' : Int} {c c' : Bool} (h1 : a = a') (h2 : b = b') (h3 : c = c') :
    Ending.returned (.tuple #[.int .i64 a, .int .i64 b, .bool c]) = .returned (.tuple #[.int .i64 a', .int .i64 b', .bool c']) := by rw [h1, h2, h3]
theorem ret2 {a a' : Int} {c c' : Bool} (h1 : a = a') (h3 : c = c') :
    Ending.returned (.tuple #[.int .i64 a, .bool c]) = .returned (.tuple #[.int .i64 a', .bool c']) := by rw [h1, h3]

set_option maxHeartbeats 1600000 in
theorem hm_any (a b c d e : UInt8) (w : World) (h58 : (c.toNat : Int) = 58) :
    Calls Trym.prog 20 #[.string ⟨#[a, b, c, d, e]⟩] w fun x w' => x = .returned (.tuple #[.int .i64 (d2 a.toNat b.toNat), .int .i64 (d2 d.toNat e.toNat), .bool (hmOk (d2 a.toNat b.toNat) (d2 d.toNat e.toNat))]) ∧ ∃ n, w' = w.drewN n := by
  have e2 : (⟨#[a, b, c, d, e]⟩ : ByteArray)[2]'(show 2 < 5 from by omega) = c := rfl
  have x0 : (⟨#[a, b, c, d, e]⟩ : ByteArray).extract 0 2 = ⟨#[a, b]⟩ := rfl
  have x3 : (⟨#[a, b, c, d, e]⟩ : ByteArray).extract 3 5 = ⟨#[d, e]⟩ := rfl
  have hb : ((c.toNat : Int) == 58) = true := by rw [h58]; rfl
  clear h58
  go_enter Trym.func20, Trym.ntmps20
  go_wp2
  go_quiet ((go_at_call 19; exact Calls.quiet_of_same (digits_any _ _ _)))
  go_wp2
  · go_ret3
    exact ⟨ret3 rfl rfl (hmOk1 ‹_› ‹_›), ⟨_, rfl⟩⟩
  · go_ret3
    exact ⟨ret3 rfl rfl (hmOk2 ‹_› ‹_›), ⟨_, rfl⟩⟩
  · go_ret3
    exact ⟨ret3 rfl rfl (hmOk3 ‹_›), ⟨_, rfl⟩⟩

set_option maxHeartbeats 1600000 in
theorem hm_no (a b c d e : UInt8) (w : World) (h58 : (c.toNat : Int) ≠ 58) :
    Calls Trym.prog 20 #[.string ⟨#[a, b, c, d, e]⟩] w fun x w' => x = .returned (.tuple #[.int .i64 0, .int .i64 0, .bool false]) ∧ ∃ n, w' = w.drewN n := by
  have e2 : (⟨#[a, b, c, d, e]⟩ : ByteArray)[2]'(show 2 < 5 from by omega) = c := rfl
  have hb : ((c.toNat : Int) == 58) = false := beq_eq_false_iff_ne.2 h58
  clear h58
  go_enter Trym.func20, Trym.ntmps20
  go_wp2
  go_ret3
  exact ⟨rfl, ⟨0, rfl⟩⟩

/-- What utcOffset answers on three bytes, on six. -/
def sg (s x : Int) : Int := if s = 45 then -x else x
def o3 (s a b : Int) : Int × Bool := if (s = 43 ∨ s = 45) ∧ 0 ≤ d2 a b ∧ d2 a b ≤ 23 then (sg s (d2 a b * 60), true) else (0, false)
def o6 (s a b c d e : Int) : Int × Bool :=
  if (s = 43 ∨ s = 45) ∧ c = 58 ∧ 0 ≤ d2 a b ∧ d2 a b ≤ 23 ∧ 0 ≤ d2 d e ∧ d2 d e ≤ 59 then (sg s (d2 a b * 60 + d2 d e), true) else (0, false)

theorem o3_yes {s a b : Int} (h : s = 43 ∨ s = 45) (h1 : 0 ≤ d2 a b) (h2 : d2 a b ≤ 23) : o3 s a b = (sg s (d2 a b * 60), true) := by unfold o3; rw [if_pos ⟨h, h1, h2⟩]
theorem o3_no {s a b : Int} (h : ¬ ((s = 43 ∨ s = 45) ∧ 0 ≤ d2 a b ∧ d2 a b ≤ 23)) : o3 s a b = (0, false) := by unfold o3; rw [if_neg h]
theorem sg_minus (x : Int) : sg 45 x = -x := by simp [sg]
theorem sg_plus (x : Int) : sg 43 x = x := by simp [sg]

set_option maxHeartbeats 3200000 in
theorem utc3 (s a b : UInt8) (w : World) :
    Calls Trym.prog 15 #[.string ⟨#[s, a, b]⟩] w fun x w' => x = .returned (.tuple #[.int .i64 (o3 s.toNat a.toNat b.toNat).1, .bool (o3 s.toNat a.toNat b.toNat).2]) ∧ ∃ n, w' = w.drewN n := by
  have e0 : (⟨#[s, a, b]⟩ : ByteArray)[0]'(show 0 < 3 from by omega) = s := rfl
  have x1 : (⟨#[s, a, b]⟩ : ByteArray).extract 1 3 = ⟨#[a, b]⟩ := rfl
  have tl : (⟨#[s, a, b]⟩ : ByteArray).toList = [s, a, b] := by simp [ByteArray.toList_eq]
  by_cases hs : (s.toNat : Int) = 45
  · have hs1 : ((s.toNat : Int) == 45) = true := by rw [hs]; rfl
    have hD := hid (digits_any a b w)
    have hO : Hid (0 ≤ d2 a.toNat b.toNat → d2 a.toNat b.toNat ≤ 23 → o3 s.toNat a.toNat b.toNat = (-(d2 a.toNat b.toNat * 60), true)) := fun h1 h2 => by
      rw [o3_yes (.inr hs) h1 h2, hs, sg_minus]
    have hN : Hid (¬ (0 ≤ d2 a.toNat b.toNat ∧ d2 a.toNat b.toNat ≤ 23) → o3 s.toNat a.toNat b.toNat = (0, false)) := fun h => o3_no (fun h' => h h'.2)
    have hbd := d2_bd a.toNat b.toNat
    clear hs
    generalize d2 a.toNat b.toNat = h at hD hO hN hbd
    generalize o3 s.toNat a.toNat b.toNat = r at hO hN
    have hcs : (0 ≤ h ∧ h ≤ 23 ∧ Hid (r = (-(h * 60), true))) ∨ (23 < h ∧ Hid (r = (0, false))) ∨ (h < 0 ∧ Hid (r = (0, false))) := by
      by_cases h1 : 0 ≤ h
      · by_cases h2 : h ≤ 23
        · exact .inl ⟨h1, h2, hO.out h1 h2⟩
        · exact .inr (.inl ⟨by omega, hN.out (fun h' => h2 h'.2)⟩)
      · exact .inr (.inr ⟨by omega, hN.out (fun h' => h1 h'.1)⟩)
    clear hO hN
    rcases hcs with ⟨h1, h2, hr⟩ | ⟨h1, hr⟩ | ⟨h1, hr⟩
    all_goals go_enter Trym.func15, Trym.ntmps15
    all_goals go_wp2_with fail
    all_goals refine Calls.mono hD.out ?_
    all_goals rintro e w ⟨rfl, rfl⟩
    all_goals go_wp2
    all_goals go_ret2
    all_goals rw [hr.out]
    all_goals exact ⟨ret2 (by omega) rfl, ⟨0, rfl⟩⟩
  · by_cases hs' : (s.toNat : Int) = 43
    · have hs := hs'
      clear hs'
      have hs1 : ((s.toNat : Int) == 45) = false := by rw [hs]; rfl
      have hs2 : ((s.toNat : Int) == 43) = true := by rw [hs]; rfl
      have hD := hid (digits_any a b w)
      have hO : Hid (0 ≤ d2 a.toNat b.toNat → d2 a.toNat b.toNat ≤ 23 → o3 s.toNat a.toNat b.toNat = (d2 a.toNat b.toNat * 60, true)) := fun h1 h2 => by
        rw [o3_yes (.inl hs) h1 h2, hs, sg_plus]
      have hN : Hid (¬ (0 ≤ d2 a.toNat b.toNat ∧ d2 a.toNat b.toNat ≤ 23) → o3 s.toNat a.toNat b.toNat = (0, false)) := fun h => o3_no (fun h' => h h'.2)
      have hbd := d2_bd a.toNat b.toNat
      clear hs
      generalize d2 a.toNat b.toNat = h at hD hO hN hbd
      generalize o3 s.toNat a.toNat b.toNat = r at hO hN
      have hcs : (0 ≤ h ∧ h ≤ 23 ∧ Hid (r = (h * 60, true))) ∨ (23 < h ∧ Hid (r = (0, false))) ∨ (h < 0 ∧ Hid (r = (0, false))) := by
        by_cases h1 : 0 ≤ h
        · by_cases h2 : h ≤ 23
          · exact .inl ⟨h1, h2, hO.out h1 h2⟩
          · exact .inr (.inl ⟨by omega, hN.out (fun h' => h2 h'.2)⟩)
        · exact .inr (.inr ⟨by omega, hN.out (fun h' => h1 h'.1)⟩)
      clear hO hN
      rcases hcs with ⟨h1, h2, hr⟩ | ⟨h1, hr⟩ | ⟨h1, hr⟩
      all_goals go_enter Trym.func15, Trym.ntmps15
      all_goals go_wp2_with fail
      all_goals refine Calls.mono hD.out ?_
      all_goals rintro e w ⟨rfl, rfl⟩
      all_goals go_wp2
      all_goals go_ret2
      all_goals rw [hr.out]
      all_goals exact ⟨ret2 (by omega) rfl, ⟨0, rfl⟩⟩
    · have hr : Hid (o3 s.toNat a.toNat b.toNat = (0, false)) := o3_no (fun h => by omega)
      have hs1 : ((s.toNat : Int) == 45) = false := beq_eq_false_iff_ne.2 hs
      have hs2 : ((s.toNat : Int) == 43) = false := beq_eq_false_iff_ne.2 hs'
      clear hs hs'
      generalize o3 s.toNat a.toNat b.toNat = r at hr
      go_enter Trym.func15, Trym.ntmps15
      go_wp2
      go_ret2
      rw [hr.out]
      exact ⟨rfl, ⟨0, rfl⟩⟩

set_option maxHeartbeats 6400000 in
theorem utc6 (s a b c d e : UInt8) (w : World) :
    Calls Trym.prog 15 #[.string ⟨#[s, a, b, c, d, e]⟩] w fun x w' => x = .returned (.tuple #[.int .i64 (o6 s.toNat a.toNat b.toNat c.toNat d.toNat e.toNat).1, .bool (o6 s.toNat a.toNat b.toNat c.toNat d.toNat e.toNat).2]) ∧ ∃ n, w' = w.drewN n := by
  have e0 : (⟨#[s, a, b, c, d, e]⟩ : ByteArray)[0]'(show 0 < 6 from by omega) = s := rfl
  have x1 : (⟨#[s, a, b, c, d, e]⟩ : ByteArray).extract 1 6 = ⟨#[a, b, c, d, e]⟩ := rfl
  have tl : (⟨#[s, a, b, c, d, e]⟩ : ByteArray).toList = [s, a, b, c, d, e] := by simp [ByteArray.toList_eq]
  by_cases hs : (s.toNat : Int) = 45
  · have hs1 : ((s.toNat : Int) == 45) = true := by rw [hs]; rfl
    by_cases hc : (c.toNat : Int) = 58
    · have hD := hid (hm_any a b c d e w hc)
      have hO : Hid (0 ≤ d2 a.toNat b.toNat → d2 a.toNat b.toNat ≤ 23 → 0 ≤ d2 d.toNat e.toNat → d2 d.toNat e.toNat ≤ 59 → o6 s.toNat a.toNat b.toNat c.toNat d.toNat e.toNat = (-(d2 a.toNat b.toNat * 60 + d2 d.toNat e.toNat), true)) := fun h1 h2 h3 h4 => by
        unfold o6
        rw [if_pos ⟨.inr hs, hc, h1, h2, h3, h4⟩, hs, sg_minus]
      have hN : Hid (¬ (0 ≤ d2 a.toNat b.toNat ∧ d2 a.toNat b.toNat ≤ 23 ∧ 0 ≤ d2 d.toNat e.toNat ∧ d2 d.toNat e.toNat ≤ 59) → o6 s.toNat a.toNat b.toNat c.toNat d.toNat e.toNat = (0, false)) := fun h => by
        unfold o6
        rw [if_neg (fun h' => h h'.2.2)]
      have hbd := d2_bd a.toNat b.toNat
      have hbm := d2_bd d.toNat e.toNat
      clear hs hc
      generalize d2 a.toNat b.toNat = h at hD hO hN hbd
      generalize d2 d.toNat e.toNat = m at hD hO hN hbm
      generalize o6 s.toNat a.toNat b.toNat c.toNat d.toNat e.toNat = r at hO hN
      have hcs : (0 ≤ h ∧ h ≤ 23 ∧ 0 ≤ m ∧ m ≤ 59 ∧ hmOk h m = true ∧ Hid (r = (-(h * 60 + m), true))) ∨ (23 < h ∧ hmOk h m = true ∧ Hid (r = (0, false))) ∨ (hmOk h m = false ∧ Hid (r = (0, false))) := by
        by_cases h1 : 0 ≤ h ∧ 0 ≤ m ∧ m ≤ 59
        · have hk : hmOk h m = true := by simp [hmOk, h1]
          by_cases h2 : h ≤ 23
          · exact .inl ⟨h1.1, h2, h1.2.1, h1.2.2, hk, hO.out h1.1 h2 h1.2.1 h1.2.2⟩
          · exact .inr (.inl ⟨by omega, hk, hN.out (fun h' => h2 h'.2.1)⟩)
        · exact .inr (.inr ⟨by simp [hmOk]; omega, hN.out (fun h' => h1 ⟨h'.1, h'.2.2⟩)⟩)
      clear hO hN
      rcases hcs with ⟨h1, h2, h3, h4, hk, hr⟩ | ⟨h1, hk, hr⟩ | ⟨hk, hr⟩
      all_goals go_enter Trym.func15, Trym.ntmps15
      all_goals go_wp2_with fail
      all_goals refine Calls.mono hD.out ?_
      all_goals rintro e' w1 ⟨rfl, nd, rfl⟩
      all_goals rw [hk]
      all_goals go_wp2
      all_goals go_ret2
      all_goals rw [hr.out]
      all_goals exact ⟨ret2 (by omega) rfl, ⟨nd, rfl⟩⟩
    · have hD := hid (hm_no a b c d e w hc)
      have hr : Hid (o6 s.toNat a.toNat b.toNat c.toNat d.toNat e.toNat = (0, false)) := by
        show _ = _
        unfold o6
        rw [if_neg (fun h' => hc h'.2.1)]
      clear hs hc
      generalize o6 s.toNat a.toNat b.toNat c.toNat d.toNat e.toNat = r at hr
      go_enter Trym.func15, Trym.ntmps15
      go_wp2_with fail
      refine Calls.mono hD.out ?_
      rintro e' w1 ⟨rfl, nd, rfl⟩
      go_wp2
      go_ret2
      rw [hr.out]
      exact ⟨rfl, ⟨nd, rfl⟩⟩
  · by_cases hs' : (s.toNat : Int) = 43
    · have hs := hs'
      clear hs'
      have hs1 : ((s.toNat : Int) == 45) = false := by rw [hs]; rfl
      have hs2 : ((s.toNat : Int) == 43) = true := by rw [hs]; rfl
      by_cases hc : (c.toNat : Int) = 58
      · have hD := hid (hm_any a b c d e w hc)
        have hO : Hid (0 ≤ d2 a.toNat b.toNat → d2 a.toNat b.toNat ≤ 23 → 0 ≤ d2 d.toNat e.toNat → d2 d.toNat e.toNat ≤ 59 → o6 s.toNat a.toNat b.toNat c.toNat d.toNat e.toNat = (d2 a.toNat b.toNat * 60 + d2 d.toNat e.toNat, true)) := fun h1 h2 h3 h4 => by
          unfold o6
          rw [if_pos ⟨.inl hs, hc, h1, h2, h3, h4⟩, hs, sg_plus]
        have hN : Hid (¬ (0 ≤ d2 a.toNat b.toNat ∧ d2 a.toNat b.toNat ≤ 23 ∧ 0 ≤ d2 d.toNat e.toNat ∧ d2 d.toNat e.toNat ≤ 59) → o6 s.toNat a.toNat b.toNat c.toNat d.toNat e.toNat = (0, false)) := fun h => by
          unfold o6
          rw [if_neg (fun h' => h h'.2.2)]
        have hbd := d2_bd a.toNat b.toNat
        have hbm := d2_bd d.toNat e.toNat
        clear hs hc
        generalize d2 a.toNat b.toNat = h at hD hO hN hbd
        generalize d2 d.toNat e.toNat = m at hD hO hN hbm
        generalize o6 s.toNat a.toNat b.toNat c.toNat d.toNat e.toNat = r at hO hN
        have hcs : (0 ≤ h ∧ h ≤ 23 ∧ 0 ≤ m ∧ m ≤ 59 ∧ hmOk h m = true ∧ Hid (r = (h * 60 + m, true))) ∨ (23 < h ∧ hmOk h m = true ∧ Hid (r = (0, false))) ∨ (hmOk h m = false ∧ Hid (r = (0, false))) := by
          by_cases h1 : 0 ≤ h ∧ 0 ≤ m ∧ m ≤ 59
          · have hk : hmOk h m = true := by simp [hmOk, h1]
            by_cases h2 : h ≤ 23
            · exact .inl ⟨h1.1, h2, h1.2.1, h1.2.2, hk, hO.out h1.1 h2 h1.2.1 h1.2.2⟩
            · exact .inr (.inl ⟨by omega, hk, hN.out (fun h' => h2 h'.2.1)⟩)
          · exact .inr (.inr ⟨by simp [hmOk]; omega, hN.out (fun h' => h1 ⟨h'.1, h'.2.2⟩)⟩)
        clear hO hN
        rcases hcs with ⟨h1, h2, h3, h4, hk, hr⟩ | ⟨h1, hk, hr⟩ | ⟨hk, hr⟩
        all_goals go_enter Trym.func15, Trym.ntmps15
        all_goals go_wp2_with fail
        all_goals refine Calls.mono hD.out ?_
        all_goals rintro e' w1 ⟨rfl, nd, rfl⟩
        all_goals rw [hk]
        all_goals go_wp2
        all_goals go_ret2
        all_goals rw [hr.out]
        all_goals exact ⟨ret2 (by omega) rfl, ⟨nd, rfl⟩⟩
      · have hD := hid (hm_no a b c d e w hc)
        have hr : Hid (o6 s.toNat a.toNat b.toNat c.toNat d.toNat e.toNat = (0, false)) := by
          show _ = _
          unfold o6
          rw [if_neg (fun h' => hc h'.2.1)]
        clear hs hc
        generalize o6 s.toNat a.toNat b.toNat c.toNat d.toNat e.toNat = r at hr
        go_enter Trym.func15, Trym.ntmps15
        go_wp2_with fail
        refine Calls.mono hD.out ?_
        rintro e' w1 ⟨rfl, nd, rfl⟩
        go_wp2
        go_ret2
        rw [hr.out]
        exact ⟨rfl, ⟨nd, rfl⟩⟩
    · have hr : Hid (o6 s.toNat a.toNat b.toNat c.toNat d.toNat e.toNat = (0, false)) := by
        show _ = _
        unfold o6
        rw [if_neg (fun h => by omega)]
      have hs1 : ((s.toNat : Int) == 45) = false := beq_eq_false_iff_ne.2 hs
      have hs2 : ((s.toNat : Int) == 43) = false := beq_eq_false_iff_ne.2 hs'
      clear hs hs'
      generalize o6 s.toNat a.toNat b.toNat c.toNat d.toNat e.toNat = r at hr
      go_enter Trym.func15, Trym.ntmps15
      go_wp2
      go_ret2
      rw [hr.out]
      exact ⟨rfl, ⟨0, rfl⟩⟩

end Go.Proofs.Qxb6602889aMods
