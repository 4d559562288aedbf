import Derived.Test.Qxb6602597aModsTexts
namespace Go.Proofs.Qxb6602597aMods
open Go.ChangeShapes Go.WideShapes Go.ChangeAt Go.RowKit
set_option linter.unusedVariables false
set_option linter.unusedSimpArgs false

set_option maxHeartbeats 6400000 in
set_option maxRecDepth 100000 in
theorem interns_main (a0 : Option Addr) (len0 cap0 : Nat) (K : List ByteArray) (a1 : Option Addr) (len1 cap1 : Nat) (E : List (Option Addr × Nat × Nat)) (T : List (List Int)) (w : World)
    (r0 : IsRow Value.string ByteArray.empty w a0 len0 cap0 K) (r1 : IsTexts w a1 len1 cap1 E T)
    (c0 : len0 ≤ 65536) (c1 : len1 ≤ 65536) (c3 : 16 * len0 + 24 * len1 ≤ 1048576) :
    Calls Trym.prog 6 #[.slice a0 len0 cap0, .slice a1 len1 cap1] w fun e w' => e = .returned (.bool true) ∧ Below w.heap.size w w' := by
  have R0 := hid r0
  have R1 := hid r1
  have hmk := run_mk30
  have hmk2 := run_mk36
  have hB := hid (bytes15_any a0 len0 cap0 K a1 len1 cap1 E T w r0 r1)
  clear r0 r1
  go_enter Trym.func6, Trym.ntmps6
  go_wp2_with fail
  refine Calls.mono hB.out ?_
  rintro e w ⟨⟨b, rfl⟩, rfl⟩
  clear hB
  cases b with
  | false =>
    go_wp2
    go_ret
    exact ⟨rfl, Below.refl _ _⟩
  | true =>
    go_wp2
    go_loop [5, 6] (fun z i => ∃ (k : Nat) (t : Int), k ≤ len0 ∧ i = .int .i64 k ∧ z = .int .i64 t ∧ 0 ≤ t ∧ t ≤ 1048576 ∧ ∀ j, j < k → (K.getD j ByteArray.empty).size ≤ 1048576) (fun _ i => len0 - (intOf i).toNat)
    case atStart => exact ⟨0, _, by omega, rfl, rfl, by omega, by omega, fun j hj => absurd hj (by omega)⟩
    case round =>
      obtain ⟨k, t, hk, rfl, rfl, t0, t1, hKs⟩ := hrel
      have HK := hid hKs
      clear hKs
      by_cases hlt : k < len0
      · obtain ⟨b, o, ha, g⟩ := R0.out.at hlt
        subst ha
        by_cases hs : (K.getD k ByteArray.empty).size ≤ 1048576
        · have HK2 : Hid (∀ j, j < k + 1 → (K.getD j ByteArray.empty).size ≤ 1048576) := fun j hj => by
            rcases Nat.lt_succ_iff_lt_or_eq.1 hj with h | rfl
            · exact HK.out j h
            · exact hs
          generalize K.getD k ByteArray.empty = s at g hs
          by_cases ht : t + s.size ≤ 1048576
          · go_wp2
            go_round
            case rel => exact ⟨k + 1, _, by omega, by go_num, rfl, by omega, by omega, HK2.out⟩
            case measure => simp [intOf]; omega
          · go_wp2
            go_ret
            exact ⟨rfl, Below.refl _ _⟩
        · generalize K.getD k ByteArray.empty = s at g hs
          go_wp2
          go_ret
          exact ⟨rfl, Below.refl _ _⟩
      · have HKs : Hid (∀ j, j < len0 → (K.getD j ByteArray.empty).size ≤ 1048576) := fun j hj => HK.out j (by omega)
        clear HK
        go_wp2
        go_loop [5, 7] (fun z i => ∃ (k : Nat) (t : Int), k ≤ len1 ∧ i = .int .i64 k ∧ z = .int .i64 t ∧ 0 ≤ t ∧ t ≤ 1048576 ∧ ∀ j, j < k → (E.getD j zE).2.1 ≤ 1048576) (fun _ i => len1 - (intOf i).toNat)
        case atStart => exact ⟨0, _, by omega, rfl, rfl, t0, t1, fun j hj => absurd hj (by omega)⟩
        case round =>
          obtain ⟨k2, t2, hk2, rfl, rfl, t20, t21, hVs⟩ := hrel
          have HV := hid hVs
          clear hVs
          by_cases hlt2 : k2 < len1
          · obtain ⟨b, o, ha, g⟩ := R1.out.1.at hlt2
            subst ha
            by_cases hs : (E.getD k2 zE).2.1 ≤ 1048576
            · have HV2 : Hid (∀ j, j < k2 + 1 → (E.getD j zE).2.1 ≤ 1048576) := fun j hj => by
                rcases Nat.lt_succ_iff_lt_or_eq.1 hj with h | rfl
                · exact HV.out j h
                · exact hs
              generalize E.getD k2 zE = ek at g hs
              obtain ⟨ak, lk, ck⟩ := ek
              simp only [mkS] at g hs
              by_cases ht : t2 + lk ≤ 1048576
              · go_wp2
                go_round
                case rel => exact ⟨k2 + 1, _, by omega, by go_num, rfl, by omega, by omega, HV2.out⟩
                case measure => simp [intOf]; omega
              · go_wp2
                go_ret
                exact ⟨rfl, Below.refl _ _⟩
            · generalize E.getD k2 zE = ek at g hs
              obtain ⟨ak, lk, ck⟩ := ek
              simp only [mkS] at g hs
              go_wp2
              go_ret
              exact ⟨rfl, Below.refl _ _⟩
          · have HVs : Hid (∀ j, j < len1 → (E.getD j zE).2.1 ≤ 1048576) := fun j hj => HV.out j (by omega)
            clear HV
            go_wp2_with fail
            refine (copyS_any a0 len0 cap0 K _ R0.out (by omega)).mono ?_
            rintro e W1 ⟨a0', c0', rfl, own0, B1⟩
            go_wp2_with fail
            refine (copyT_any a1 len1 cap1 E T _ (R1.out.later B1) (by omega) HVs.out).mono ?_
            rintro e W3 ⟨a1', c1', E', rfl, hE', rdE, hin, B2⟩
            have bel : Below w.heap.size w W3 := B1.trans (B2.mono B1.size)
            have rdK : Rd Value.string ByteArray.empty W3 (.slice a0' len0 c0') K := (Rd.of_own own0).later B2
            have HT : Hid (∀ j, j < len1 → (T.getD j []).length ≤ 1048576) := fun j hj => by
              rw [(R1.out.2 j hj).1]
              exact HVs.out j hj
            have HE' := hid hE'
            clear own0 B1 B2 R0 R1 HVs hE'
            go_wp2_with fail
            go_loopw [10] (fun i wr => ∃ (k : Nat) (S : ByteArray → Bool) (C : Nat), k ≤ len0 ∧ i = .int .i64 k ∧ Mp wr W3.heap.size k (idF S) C ∧ Ms wr (W3.heap.size + 1) k S C ∧ (∀ j, j < k → S (K.getD j ByteArray.empty) = true) ∧ Below W3.heap.size W3 wr) (fun i _ => len0 - (intOf i).toNat)
            case atStart => exact ⟨0, fun _ => false, 0, Nat.zero_le _, rfl, (Mp_made W3).kept (World.grownBy_alloc _ _ none) (by simp), by have := Ms_made (W3.alloc (.map #[] 0)); rw [World.size_alloc] at this; exact this, fun j hj => absurd hj (by omega), ((Below.refl _ _).alloc (Nat.le_refl _) _).alloc (by simp) _⟩
            case round =>
              obtain ⟨k3, S, C, hk3, rfl, hm, hr, hS, hnx⟩ := hrel
              have HS := hid hS
              clear hS
              by_cases hlt3 : k3 < len0
              · obtain ⟨bk, ok, ha, gk⟩ := (rdK.later hnx).at (i := k3) (by omega)
                subst ha
                have hbk : bk < W3.heap.size := by
                  obtain ⟨b', o', h', g'⟩ := rdK.at (i := k3) (by omega)
                  simp only [Option.some.injEq, Addr.mk.injEq, and_true] at h'
                  obtain ⟨rfl, rfl⟩ := h'
                  exact World.block_lt_of_cell? W3 _ g'
                have sk := HKs.out k3 (by omega)
                have HS2 : Hid (∀ j, j < k3 + 1 → updS S (K.getD k3 ByteArray.empty) (K.getD j ByteArray.empty) = true) := fun j hj => by
                  rcases Nat.lt_succ_iff_lt_or_eq.1 hj with h | rfl
                  · exact updS_more _ (HS.out j h)
                  · exact updS_same _ _
                generalize K.getD k3 ByteArray.empty = s at gk sk HS2
                obtain ⟨W5, hrun5, hm5, hg5⟩ := hm.drew.update (k := s) (v := s) (by unfold maxLen; omega) (by unfold maxLen; omega) (by unfold maxLen; omega)
                rw [idF_upd, idF_cnt] at hm5
                have B5 := hnx.drew.grown hg5 hnx.size (fun k hk => by cases hk; exact Nat.le_refl _)
                have hr5 := hr.drew.kept hg5 (by simp)
                have gk5 : W5.cell? ⟨bk, ok + k3, none⟩ = some (.string s) := by rw [B5.cell hbk, ← hnx.cell hbk]; exact gk
                obtain ⟨W6, hrun6, hr6, hg6⟩ := hr5.update (k := s) (by unfold maxLen; omega) (by unfold maxLen; omega)
                have hm6 := hm5.kept hg6 (by simp)
                have B6 := B5.grown hg6 B5.size (fun k hk => by cases hk; omega)
                clear hm5 hr5 hg5 hg6 hm hr B5
                go_wp2
                go_region
                go_wp2
                go_roundw
                case rel => exact ⟨k3 + 1, _, _, by omega, by go_num, hm6, hr6, HS2.out, B6⟩
                case measure => simp [intOf]; omega
              · have HSK : Hid (∀ j, j < len0 → S (K.getD j ByteArray.empty) = true) := fun j hj => HS.out j (by omega)
                have hm0 := hm.mono hk3
                have hr0 : Ms wr (W3.heap.size + 1) len0 S C := by obtain ⟨D, ho, r⟩ := hr; exact ⟨D, ho.mono hk3, r⟩
                clear hm hr HS
                have hnx0 := hnx
                clear hnx
                go_wp2
                go_loopw [11] (fun i wr => ∃ (k : Nat) (S : ByteArray → Bool) (C : Nat), k ≤ len1 ∧ i = .int .i64 k ∧ Mp wr W3.heap.size (len0 + k) (idF S) C ∧ Ms wr (W3.heap.size + 1) (len0 + k) S C ∧ (∀ j, j < len0 → S (K.getD j ByteArray.empty) = true) ∧ (∀ j, j < k → S (tx (T.getD j [])) = true) ∧ Below W3.heap.size W3 wr) (fun i _ => len1 - (intOf i).toNat)
                case atStart => exact ⟨0, S, C, Nat.zero_le _, rfl, hm0, hr0, HSK.out, fun j hj => absurd hj (by omega), hnx0⟩
                case round =>
                  clear hm0 hr0 HSK hnx0
                  obtain ⟨k4, S, C, hk4, rfl, hm, hr, hSK, hST, hnx⟩ := hrel
                  have HSK := hid hSK
                  have HST := hid hST
                  clear hSK hST
                  by_cases hlt4 : k4 < len1
                  · obtain ⟨be, oe, ha, ge⟩ := (rdE.later hnx).at (i := k4) (by omega)
                    subst ha
                    have hbe : be < W3.heap.size := by
                      obtain ⟨b', o', h', g'⟩ := rdE.at (i := k4) (by omega)
                      simp only [Option.some.injEq, Addr.mk.injEq, and_true] at h'
                      obtain ⟨rfl, rfl⟩ := h'
                      exact World.block_lt_of_cell? W3 _ g'
                    have hl4 := HT.out k4 hlt4
                    have HI : Hid (∀ W, Below W3.heap.size W3 W → Rd (Value.int .u8) 0 W (mkS (E'.getD k4 zE)) (T.getD k4 [])) := fun W hW => ((Inner.below hin hW).rd (j := k4) (by rw [HE'.out]; exact hlt4)).2
                    have HST2 : Hid (∀ j, j < k4 + 1 → updS S (tx (T.getD k4 [])) (tx (T.getD j [])) = true) := fun j hj => by
                      rcases Nat.lt_succ_iff_lt_or_eq.1 hj with h | rfl
                      · exact updS_more _ (HST.out j h)
                      · exact updS_same _ _
                    have HSK2 : Hid (∀ j, j < len0 → updS S (tx (T.getD k4 [])) (K.getD j ByteArray.empty) = true) := fun j hj => updS_more _ (HSK.out j hj)
                    generalize E'.getD k4 zE = ek at ge HI
                    generalize T.getD k4 [] = l at hl4 HI HST2 HSK2
                    obtain ⟨ak, lk, ck⟩ := ek
                    simp only [mkS] at ge HI
                    have hTs : (tx l).size ≤ maxLen := by rw [tx_size]; unfold maxLen; omega
                    have hcv := Rd.text (HI.out wr hnx)
                    have hln := fun ty => hm.len ty
                    have hC := hm.le
                    by_cases hSt : S (tx l) = true
                    · have hlk := (hm.some_at hTs (idF_some hSt)).1
                      have HSt := hid hSt
                      clear hSt
                      go_wp2_with fail
                      refine (zzKeep_some W3.heap.size _ C (idF S) ak lk ck l (tx l) wr (HI.out wr hnx) hl4 hm (idF_some HSt.out)).mono ?_
                      rintro e W7 ⟨rfl, hm7, hg7⟩
                      have B7 := hnx.grown hg7 hnx.size (fun k hk => by cases hk; exact Nat.le_refl _)
                      have hr7 := hr.kept hg7 (by simp)
                      have ge7 : W7.cell? ⟨be, oe + k4, none⟩ = some (.slice ak lk ck) := by rw [B7.cell hbe, ← hnx.cell hbe]; exact ge
                      have hln7 := fun ty => hm7.len ty
                      clear hln hcv hlk hg7 hm hr
                      go_wp2_with fail
                      refine (zzKeep_some W3.heap.size _ C (idF S) ak lk ck l (tx l) W7 (HI.out W7 B7) hl4 hm7 (idF_some HSt.out)).mono ?_
                      rintro e W8 ⟨rfl, hm8, hg8⟩
                      have B8 := B7.grown hg8 B7.size (fun k hk => by cases hk; exact Nat.le_refl _)
                      have hr8 := hr7.kept hg8 (by simp)
                      have hln8 := fun ty => hm8.len ty
                      obtain ⟨W9, hrun9, hr9, hg9⟩ := hr8.update (k := tx l) (by unfold maxLen; omega) hTs
                      have hm9 := (hm8.kept hg9 (by simp)).mono (n' := len0 + (k4 + 1)) (by omega)
                      have B9 := B8.grown hg9 B8.size (fun k hk => by cases hk; omega)
                      have hcs : cntS S (tx l) C = C := by unfold cntS; rw [HSt.out]; rfl
                      rw [hcs, updS_there HSt.out] at hr9
                      rw [updS_there HSt.out] at HST2 HSK2
                      clear hln7 hg8 hm7 hr7 hg9 hm8 hr8 B7 B8 hcs
                      go_wp2
                      go_roundw
                      case rel => exact ⟨k4 + 1, S, C, by omega, by go_num, hm9, hr9, HSK2.out, HST2.out, B9⟩
                      case measure => simp [intOf]; omega
                    · have hSf : S (tx l) = false := by simpa using hSt
                      have hlk := hm.none_at hTs (idF_none hSf)
                      have HSt := hid hSf
                      clear hSt hSf
                      go_wp2_with fail
                      refine (zzKeep_none W3.heap.size _ C (idF S) ak lk ck l wr (HI.out wr hnx) hl4 hm (by omega) (idF_none HSt.out)).mono ?_
                      rintro e W7 ⟨rfl, hm7, hg7⟩
                      rw [idF_upd] at hm7
                      have B7 := hnx.grown hg7 hnx.size (fun k hk => by cases hk; exact Nat.le_refl _)
                      have hr7 := hr.kept hg7 (by simp)
                      have ge7 : W7.cell? ⟨be, oe + k4, none⟩ = some (.slice ak lk ck) := by rw [B7.cell hbe, ← hnx.cell hbe]; exact ge
                      have hln7 := fun ty => hm7.len ty
                      have hcc : (((C + 1 : Nat) : Int)) = (C : Int) + 1 := by omega
                      clear hln hcv hlk hg7 hm hr
                      go_wp2_with fail
                      refine (zzKeep_some W3.heap.size _ (C + 1) (idF (updS S (tx l))) ak lk ck l (tx l) W7 (HI.out W7 B7) hl4 hm7 (idF_some (updS_same _ _))).mono ?_
                      rintro e W8 ⟨rfl, hm8, hg8⟩
                      have B8 := B7.grown hg8 B7.size (fun k hk => by cases hk; exact Nat.le_refl _)
                      have hr8 := hr7.kept hg8 (by simp)
                      have hln8 := fun ty => hm8.len ty
                      obtain ⟨W9, hrun9, hr9, hg9⟩ := hr8.update (k := tx l) (by unfold maxLen; omega) hTs
                      have hm9 := (hm8.kept hg9 (by simp)).mono (n' := len0 + (k4 + 1)) (by omega)
                      have B9 := B8.grown hg9 B8.size (fun k hk => by cases hk; omega)
                      have hcs : cntS S (tx l) C = C + 1 := by unfold cntS; rw [HSt.out]; rfl
                      rw [hcs] at hr9
                      clear hln7 hg8 hm7 hr7 hg9 hm8 hr8 B7 B8 hcs
                      go_wp2
                      go_roundw
                      case rel => exact ⟨k4 + 1, updS S (tx l), C + 1, by omega, by go_num, hm9, hr9, HSK2.out, HST2.out, B9⟩
                      case measure => simp [intOf]; omega
                  · have HTX : Hid (∀ j, j < len1 → S (tx (T.getD j [])) = true) := fun j hj => HST.out j (by omega)
                    have hlm := fun ty => hm.len ty
                    have hls := fun ty => hr.len ty
                    clear HST
                    go_wp2
                    go_loop [19] (fun i => ∃ k5 : Nat, k5 ≤ len0 ∧ i = .int .i64 k5) (fun i => len0 - (intOf i).toNat)
                    case atStart => exact ⟨0, Nat.zero_le _, rfl⟩
                    case round =>
                      obtain ⟨k5, hk5, rfl⟩ := hrel
                      by_cases hlt5 : k5 < len0
                      · obtain ⟨b5, o5, ha, g5⟩ := (rdK.later hnx).at (i := k5) (by omega)
                        subst ha
                        have s5 := HKs.out k5 (by omega)
                        have S5 := HSK.out k5 hlt5
                        generalize K.getD k5 ByteArray.empty = x5 at g5 s5 S5
                        have hl1 := (hm.some_at (by unfold maxLen; omega) (idF_some S5)).1
                        clear S5
                        go_wp2
                        go_round
                        case rel => exact ⟨k5 + 1, by omega, by go_num⟩
                        case measure => simp [intOf]; omega
                      · go_wp2
                        go_loop [22] (fun i => ∃ k6 : Nat, k6 ≤ len1 ∧ i = .int .i64 k6) (fun i => len1 - (intOf i).toNat)
                        case atStart => exact ⟨0, Nat.zero_le _, rfl⟩
                        case round =>
                          obtain ⟨k6, hk6, rfl⟩ := hrel
                          by_cases hlt6 : k6 < len1
                          · obtain ⟨be, oe, ha, ge⟩ := (rdE.later hnx).at (i := k6) (by omega)
                            subst ha
                            have hl6 := HT.out k6 hlt6
                            have S6 := HTX.out k6 hlt6
                            have rd6 := ((Inner.below hin hnx).rd (j := k6) (by rw [HE'.out]; exact hlt6)).2
                            generalize E'.getD k6 zE = ek at ge rd6
                            generalize T.getD k6 [] = l at hl6 S6 rd6
                            obtain ⟨ak, lk, ck⟩ := ek
                            simp only [mkS] at ge rd6
                            have hcv := Rd.text rd6
                            have hl1 := (hm.some_at (by rw [tx_size]; unfold maxLen; omega) (idF_some S6)).1
                            clear S6
                            go_wp2
                            go_round
                            case rel => exact ⟨k6 + 1, by omega, by go_num⟩
                            case measure => simp [intOf]; omega
                          · go_wp2
                            go_ret
                            exact ⟨rfl, bel.trans (hnx.mono bel.size)⟩

end Go.Proofs.Qxb6602597aMods
