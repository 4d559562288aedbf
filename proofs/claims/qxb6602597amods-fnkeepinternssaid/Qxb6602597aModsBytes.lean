import Derived.Test.Qxb6602597aModsKeep
namespace Go.Proofs.Qxb6602597aMods
open Go.ChangeShapes Go.WideShapes Go.ChangeAt Go.RowKit
set_option linter.unusedVariables false
set_option linter.unusedSimpArgs false

/-- It returned a bool. -/
def AnyB (e : Ending) : Prop := ∃ b, e = .returned (.bool b)
theorem anyB (b : Bool) : AnyB (.returned (.bool b)) := ⟨b, rfl⟩

set_option maxHeartbeats 3200000 in
set_option maxRecDepth 100000 in
theorem bytes11_any (a0 : Option Addr) (len0 cap0 : Nat) (K : List ByteArray) (a1 : Option Addr) (len1 cap1 : Nat) (V : List ByteArray) (a2 : Option Addr) (len2 cap2 : Nat) (w : World)
    (r0 : IsRow Value.string ByteArray.empty w a0 len0 cap0 K) (r1 : IsRow Value.string ByteArray.empty w a1 len1 cap1 V) (h2 : len2 ≤ maxLen) :
    Calls Trym.prog 11 #[.slice a0 len0 cap0, .slice a1 len1 cap1, .slice a2 len2 cap2] w fun e w' => AnyB e ∧ w' = w := by
  have h0 := r0.max
  have h1 := r1.max
  unfold maxLen at h0 h1 h2
  have R0 := hid r0
  have R1 := hid r1
  clear r0 r1
  by_cases c0 : len0 ≤ 1048576
  · go_enter Trym.func11, Trym.ntmps11
    go_wp2
    go_loop [7, 8] (fun z i => ∃ (k : Nat) (t : Int), k ≤ len0 ∧ i = .int .i64 k ∧ z = .int .i64 t ∧ 0 ≤ t ∧ t ≤ 1048576) (fun _ i => len0 - (intOf i).toNat)
    case atStart => exact ⟨0, len0, by omega, rfl, rfl, by omega, by omega⟩
    case round =>
      obtain ⟨k, t, hk, rfl, rfl, t0, t1⟩ := hrel
      by_cases hlt : k < len0
      · obtain ⟨b, o, ha, g⟩ := R0.out.at hlt
        subst ha
        generalize K.getD k ByteArray.empty = s at g
        by_cases hs : s.size ≤ 1048576
        · by_cases ht : t + s.size ≤ 1048576
          · go_wp2
            go_round
            case rel => exact ⟨k + 1, _, by omega, by go_num, rfl, by omega, by omega⟩
            case measure => simp [intOf]; omega
          · go_wp2
            go_ret
            exact ⟨anyB _, rfl⟩
        · go_wp2
          go_ret
          exact ⟨anyB _, rfl⟩
      · by_cases c1 : len1 ≤ 1048576
        · by_cases c1' : t + len1 ≤ 1048576
          · go_wp2
            go_loop [7, 9] (fun z i => ∃ (k : Nat) (t : Int), k ≤ len1 ∧ i = .int .i64 k ∧ z = .int .i64 t ∧ 0 ≤ t ∧ t ≤ 1048576) (fun _ i => len1 - (intOf i).toNat)
            case atStart => exact ⟨0, _, by omega, rfl, rfl, by omega, c1'⟩
            case round =>
              obtain ⟨k2, t2, hk2, rfl, rfl, t20, t21⟩ := hrel
              by_cases hlt2 : k2 < len1
              · obtain ⟨b, o, ha, g⟩ := R1.out.at hlt2
                subst ha
                generalize V.getD k2 ByteArray.empty = s at g
                by_cases hs : s.size ≤ 1048576
                · by_cases ht : t2 + s.size ≤ 1048576
                  · go_wp2
                    go_round
                    case rel => exact ⟨k2 + 1, _, by omega, by go_num, rfl, by omega, by omega⟩
                    case measure => simp [intOf]; omega
                  · go_wp2
                    go_ret
                    exact ⟨anyB _, rfl⟩
                · go_wp2
                  go_ret
                  exact ⟨anyB _, rfl⟩
              · by_cases c2 : len2 ≤ 1048576
                · go_wp2
                  all_goals go_ret
                  all_goals exact ⟨anyB _, rfl⟩
                · go_wp2
                  go_ret
                  exact ⟨anyB _, rfl⟩
          · go_wp2
            go_ret
            exact ⟨anyB _, rfl⟩
        · go_wp2
          go_ret
          exact ⟨anyB _, rfl⟩
  · go_enter Trym.func11, Trym.ntmps11
    go_wp2
    go_ret
    exact ⟨anyB _, rfl⟩

end Go.Proofs.Qxb6602597aMods
