import Derived.Test.Qxb6602597aModsRows
import Derived.WalkKit
import Derived.ProofKit
import Derived.OpenShut
import Derived.ShutString
import Derived.ChangeOld
import Derived.Below
import Derived.WalkSpells
import Derived.WalkSmall
namespace Go.Proofs.Qxb6602597aMods
open Go.ChangeShapes Go.WideShapes Go.ChangeAt Go.RowKit
set_option linter.unusedVariables false
set_option linter.unusedSimpArgs false

/-- The table of the law's own text. -/
def qT : ByteArray := ⟨#[32, 33, 35, 36, 37, 39, 40, 41, 42, 43, 44, 45, 46, 47, 48, 49, 50, 51, 52, 53, 54, 55, 56, 57, 58, 59, 61, 63, 64, 65, 66, 67, 68, 69, 70, 71, 72, 73, 74, 75, 76, 77, 78, 79, 80, 81, 82, 83, 84, 85, 86, 87, 88, 89, 90, 91, 93, 94, 95, 96, 97, 98, 99, 100, 101, 102, 103, 104, 105, 106, 107, 108, 109, 110, 111, 112, 113, 114, 115, 116, 117, 118, 119, 120, 121, 122, 123, 124, 125, 126]⟩
/-- Its k-th byte as a number. -/
def qN (j : Nat) : Int := ((qT.data.toList.getD j 0).toNat : Int)
theorem qT_size : qT.size = 90 := by decide +kernel
theorem qN_at (k : Nat) (h : k < qT.size) : ((qT[k]'h).toNat : Int) = qN k := by
  unfold qN
  have h' : k < qT.data.toList.length := by simpa using h
  have : qT.data.toList.getD k 0 = qT[k]'h := by rw [List.getD, List.getElem?_eq_getElem h']; rfl
  rw [this]
/-- The bytes that inQuotes lets stand. -/
def qb (c : Int) : Bool := decide (32 ≤ c) && decide (c ≤ 126) && !(c == 34) && !(c == 92) && !(c == 60) && !(c == 62) && !(c == 38)
theorem q_in : ∀ k, k < 90 → qb (qN k) = true := by decide +kernel
theorem q_out : ∀ c : Nat, c < 256 → qb c = true → (List.range 90).any (fun k => qN k == (c : Int)) = true := by decide +kernel
theorem q_none (c : Int) (h0 : 0 ≤ c) (h1 : c ≤ 255) (h : ∀ j, j < 90 → qN j ≠ c) : qb c = false := by
  obtain ⟨n, rfl⟩ := Int.eq_ofNat_of_zero_le h0
  cases hq : qb (n : Int) with
  | false => rfl
  | true =>
    have := q_out n (by omega) hq
    simp only [List.any_eq_true, List.mem_range, beq_iff_eq] at this
    obtain ⟨k, hk, he⟩ := this
    exact absurd he (h k hk)

set_option maxHeartbeats 400000 in
theorem quotable_any (c : Int) (w : World) (h0 : 0 ≤ c) (h1 : c ≤ 255) :
    Calls Trym.prog 8 #[.int .u8 c] w fun e w' => e = .returned (.bool (qb c)) ∧ w' = w := by
  go_enter Trym.func8, Trym.ntmps8
  go_wp2
  go_loop [3] (fun i => ∃ k : Nat, k ≤ 90 ∧ i = .int .i64 k ∧ ∀ j, j < k → qN j ≠ c) (fun i => 90 - (intOf i).toNat)
  case atStart => exact ⟨0, by omega, rfl, fun j hj => absurd hj (by omega)⟩
  case round =>
    obtain ⟨k, hk, rfl, hno⟩ := hrel
    have HN : Hid (∀ j, j < k → qN j ≠ c) := hno
    clear hno
    by_cases hlt : k < 90
    · go_wp2
      · have hh : (((qT[k]'(by rw [qT_size]; exact hlt)).toNat : Int) == c) = true := by assumption
        rw [qN_at, beq_iff_eq] at hh
        have hq := q_in k hlt
        rw [hh] at hq
        go_ret
        exact ⟨by rw [hq]; rfl, rfl⟩
      · have hh : (((qT[k]'(by rw [qT_size]; exact hlt)).toNat : Int) == c) = false := by assumption
        rw [qN_at, beq_eq_false_iff_ne] at hh
        go_round
        case rel => exact ⟨k + 1, by omega, by go_num, fun j hj => by
          rcases Nat.lt_succ_iff_lt_or_eq.1 hj with h | rfl
          · exact HN.out j h
          · exact hh⟩
        case measure => simp [intOf]; omega
    · have hq : Hid (qb c = false) := q_none c h0 h1 (fun j hj => HN.out j (by omega))
      go_wp2
      go_ret
      exact ⟨by rw [hq.out]; rfl, rfl⟩

/-- Every byte may stand. -/
def allq (l : List UInt8) : Bool := l.all fun b => qb (b.toNat : Int)
theorem take_snoc (s : ByteArray) (k : Nat) (h : k < s.size) : s.data.toList.take (k + 1) = s.data.toList.take k ++ [s[k]] := by
  rw [List.take_succ_eq_append_getElem (by simpa using h)]; rfl
theorem allq_step (s : ByteArray) (k : Nat) (h : k < s.size) (hp : allq (s.data.toList.take k) = true) (hq : qb ((s[k]).toNat : Int) = true) : allq (s.data.toList.take (k + 1)) = true := by
  rw [take_snoc s k h]
  unfold allq at hp ⊢
  rw [List.all_append, hp]
  simp [hq]
theorem allq_stop (s : ByteArray) (k : Nat) (h : k < s.size) (hq : qb ((s[k]).toNat : Int) = false) : allq s.data.toList = false := by
  unfold allq
  rw [List.all_eq_false]
  refine ⟨s[k], ?_, by simp [hq]⟩
  have h' : k < s.data.toList.length := by simpa using h
  have : s[k] = s.data.toList[k] := rfl
  rw [this]
  exact List.getElem_mem h'
theorem qb_true {c : Int} (h : qb c = true) : 32 ≤ c ∧ c ≤ 126 ∧ (c == 34) = false ∧ (c == 92) = false ∧ (c == 60) = false ∧ (c == 62) = false ∧ (c == 38) = false := by
  simpa [qb, and_assoc] using h
theorem qb_false {c : Int} (h : qb c = false) : c < 32 ∨ 126 < c ∨ (c == 34) = true ∨ (c == 92) = true ∨ (c == 60) = true ∨ (c == 62) = true ∨ (c == 38) = true := by
  simp [qb] at h
  simp only [beq_iff_eq]
  omega

set_option maxHeartbeats 1600000 in
theorem inQuotes_any (s : ByteArray) (w : World) (hs : s.size ≤ 1048576) :
    Calls Trym.prog 17 #[.string s] w fun e w' => e = .returned (.bool (allq s.data.toList)) ∧ w' = w := by
  go_enter Trym.func17, Trym.ntmps17
  go_wp2
  go_loop [7] (fun i => ∃ k : Nat, k ≤ s.size ∧ i = .int .i64 k ∧ allq (s.data.toList.take k) = true) (fun i => s.size - (intOf i).toNat)
  case atStart => exact ⟨0, Nat.zero_le _, rfl, rfl⟩
  case round =>
    obtain ⟨k, hk, rfl, hp⟩ := hrel
    have HP : Hid (allq (s.data.toList.take k) = true) := hp
    clear hp
    by_cases hlt : k < s.size
    · by_cases hq : qb ((s[k]).toNat : Int) = true
      · have HQ := allq_step s k hlt HP.out hq
        obtain ⟨q1, q2, q3, q4, q5, q6, q7⟩ := qb_true hq
        have HQ2 : Hid (allq (s.data.toList.take (k + 1)) = true) := HQ
        clear HQ hq
        go_wp2
        go_round
        case rel => exact ⟨k + 1, by omega, by go_num, HQ2.out⟩
        case measure => simp [intOf]; omega
      · have hq' : qb ((s[k]).toNat : Int) = false := by simpa using hq
        have HE : Hid (allq s.data.toList = false) := allq_stop s k hlt hq'
        have hd := qb_false hq'
        clear hq hq'
        rcases hd with hd | hd | hd | hd | hd | hd | hd
        all_goals go_wp2
        all_goals go_ret
        all_goals exact ⟨by rw [HE.out]; rfl, rfl⟩
    · have HE : Hid (allq s.data.toList = true) := by
        have := HP.out
        rw [List.take_of_length_le (by simp; omega)] at this
        exact this
      go_wp2
      go_ret
      exact ⟨by rw [HE.out]; rfl, rfl⟩

set_option maxHeartbeats 400000 in
theorem zzInQuotes_any (s : ByteArray) (w : World) (hs : s.size ≤ 1048576) :
    Calls Trym.prog 9 #[.string s] w fun e w' => e = .returned (.bool (allq s.data.toList)) ∧ w' = w := by
  go_enter Trym.func9, Trym.ntmps9
  go_wp2_with fail
  refine (inQuotes_any s _ hs).mono ?_
  rintro e w ⟨rfl, rfl⟩
  go_wp2
  go_ret
  exact ⟨rfl, rfl⟩

set_option maxHeartbeats 400000 in
theorem bytes7_any (s : ByteArray) (w : World) (h0 : s.size ≤ maxLen) :
    Calls Trym.prog 7 #[.string s] w fun e w' => e = .returned (.bool (decide (s.size ≤ 1048576))) ∧ w' = w := by
  unfold maxLen at h0
  by_cases hs : s.size ≤ 1048576
  · go_enter Trym.func7, Trym.ntmps7
    go_wp2
    go_ret
    exact ⟨by simp [hs], rfl⟩
  · go_enter Trym.func7, Trym.ntmps7
    go_wp2
    go_ret
    exact ⟨by simp [hs], rfl⟩

set_option maxHeartbeats 1600000 in
theorem table_walk (s : ByteArray) (w0 : s.size ≤ maxLen) (w : World) :
    Calls Trym.prog 3 #[.string s] w fun e w' => e = .returned (.bool true) ∧ w' = w := by
  by_cases hs : s.size ≤ 1048576
  · have hby : decide (s.size ≤ 1048576) = true := by simpa using hs
    go_enter Trym.func3, Trym.ntmps3
    go_wp2_with fail
    refine (bytes7_any _ _ w0).mono ?_
    rintro e w ⟨rfl, rfl⟩
    rw [hby]
    go_wp2_with fail
    go_loop [3, 4] (fun wt i => ∃ k : Nat, k ≤ s.size ∧ wt = .bool true ∧ i = .int .i64 k ∧ allq (s.data.toList.take k) = true) (fun _ i => s.size - (intOf i).toNat)
    case atStart => exact ⟨0, Nat.zero_le _, rfl, rfl, rfl⟩
    case round =>
      obtain ⟨k, hk, rfl, rfl, hp⟩ := hrel
      have HP : Hid (allq (s.data.toList.take k) = true) := hp
      clear hp
      by_cases hlt : k < s.size
      · have hc : ((s[k]).toNat : Int) ≤ 255 := by have := (s[k]).toNat_lt; omega
        by_cases hq : qb ((s[k]).toNat : Int) = true
        · have HQ2 : Hid (allq (s.data.toList.take (k + 1)) = true) := allq_step s k hlt HP.out hq
          go_wp2_with fail
          refine (quotable_any _ _ (by omega) hc).mono ?_
          rintro e w ⟨rfl, rfl⟩
          rw [hq]
          go_wp2
          go_round
          case rel => exact ⟨k + 1, by omega, rfl, by go_num, HQ2.out⟩
          case measure => simp [intOf]; omega
        · have hq' : qb ((s[k]).toNat : Int) = false := by simpa using hq
          have HE : Hid (allq s.data.toList = false) := allq_stop s k hlt hq'
          clear hq
          go_wp2_with fail
          refine (quotable_any _ _ (by omega) hc).mono ?_
          rintro e w ⟨rfl, rfl⟩
          rw [hq']
          go_wp2_with fail
          refine (zzInQuotes_any s _ hs).mono ?_
          rintro e w ⟨rfl, rfl⟩
          rw [HE.out]
          go_wp2
          go_ret
          exact ⟨rfl, rfl⟩
      · have HE : Hid (allq s.data.toList = true) := by
          have := HP.out
          rw [List.take_of_length_le (by simp; omega)] at this
          exact this
        go_wp2_with fail
        refine (zzInQuotes_any s _ hs).mono ?_
        rintro e w ⟨rfl, rfl⟩
        rw [HE.out]
        go_wp2
        go_ret
        exact ⟨rfl, rfl⟩
  · have hby : decide (s.size ≤ 1048576) = false := by simpa using hs
    go_enter Trym.func3, Trym.ntmps3
    go_wp2_with fail
    refine (bytes7_any _ _ w0).mono ?_
    rintro e w ⟨rfl, rfl⟩
    rw [hby]
    go_wp2
    go_ret
    exact ⟨rfl, rfl⟩

end Go.Proofs.Qxb6602597aMods
