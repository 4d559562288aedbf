import Derived.Test.Qxb6602597aModsTable
namespace Go.Proofs.Qxb6602597aMods
open Go.ChangeShapes Go.WideShapes Go.ChangeAt Go.RowKit
set_option linter.unusedVariables false
set_option linter.unusedSimpArgs false

theorem ba_ne {a b : ByteArray} (h : a ≠ b) : (a.toList == b.toList) = false := by
  rw [beq_eq_false_iff_ne, ByteArray.toList_eq, ByteArray.toList_eq]
  exact fun e => h (ba_ext e)

set_option maxHeartbeats 6400000 in
set_option maxRecDepth 100000 in
theorem whole_main (a0 : Option Addr) (len0 cap0 : Nat) (K : List ByteArray) (a1 : Option Addr) (len1 cap1 : Nat) (V : List ByteArray) (a2 : Option Addr) (len2 cap2 : Nat) (L : List Int) (w : World)
    (r0 : IsRow Value.string ByteArray.empty w a0 len0 cap0 K) (r1 : IsRow Value.string ByteArray.empty w a1 len1 cap1 V) (r2 : IsRow (Value.int .u8) 0 w a2 len2 cap2 L)
    (c0 : len0 ≤ 65536) (c1 : len1 ≤ 65536) (c2 : len2 ≤ 1048576) (c3 : len2 + 16 * len0 + 16 * len1 ≤ 1048576) :
    Calls Trym.prog 5 #[.slice a0 len0 cap0, .slice a1 len1 cap1, .slice a2 len2 cap2] w fun e w' => e = .returned (.bool true) ∧ Below w.heap.size w w' := by
  have h2 := r2.max
  have R0 := hid r0
  have R1 := hid r1
  have R2 := hid r2
  have hmk := run_mk30
  have hB := hid (bytes11_any a0 len0 cap0 K a1 len1 cap1 V a2 len2 cap2 w r0 r1 h2)
  clear r0 r1 r2 h2
  go_enter Trym.func5, Trym.ntmps5
  go_wp2_with fail
  refine Calls.mono hB.out ?_
  rintro e w ⟨⟨b, rfl⟩, rfl⟩
  clear hB
  cases b with
  | false =>
    go_wp2
    go_ret
    exact ⟨rfl, Below.refl _ _⟩
  | true =>
    go_wp2
    go_loop [7, 8] (fun z i => ∃ (k : Nat) (t : Int), k ≤ len0 ∧ i = .int .i64 k ∧ z = .int .i64 t ∧ 0 ≤ t ∧ t ≤ 1048576 ∧ ∀ j, j < k → (K.getD j ByteArray.empty).size ≤ 1048576) (fun _ i => len0 - (intOf i).toNat)
    case atStart => exact ⟨0, _, by omega, rfl, rfl, by omega, by omega, fun j hj => absurd hj (by omega)⟩
    case round =>
      obtain ⟨k, t, hk, rfl, rfl, t0, t1, hKs⟩ := hrel
      have HK := hid hKs
      clear hKs
      by_cases hlt : k < len0
      · obtain ⟨b, o, ha, g⟩ := R0.out.at hlt
        subst ha
        by_cases hs : (K.getD k ByteArray.empty).size ≤ 1048576
        · have HK2 : Hid (∀ j, j < k + 1 → (K.getD j ByteArray.empty).size ≤ 1048576) := fun j hj => by
            rcases Nat.lt_succ_iff_lt_or_eq.1 hj with h | rfl
            · exact HK.out j h
            · exact hs
          generalize K.getD k ByteArray.empty = s at g hs
          by_cases ht : t + s.size ≤ 1048576
          · go_wp2
            go_round
            case rel => exact ⟨k + 1, _, by omega, by go_num, rfl, by omega, by omega, HK2.out⟩
            case measure => simp [intOf]; omega
          · go_wp2
            go_ret
            exact ⟨rfl, Below.refl _ _⟩
        · generalize K.getD k ByteArray.empty = s at g hs
          go_wp2
          go_ret
          exact ⟨rfl, Below.refl _ _⟩
      · have HKs : Hid (∀ j, j < len0 → (K.getD j ByteArray.empty).size ≤ 1048576) := fun j hj => HK.out j (by omega)
        clear HK
        go_wp2
        go_loop [7, 9] (fun z i => ∃ (k : Nat) (t : Int), k ≤ len1 ∧ i = .int .i64 k ∧ z = .int .i64 t ∧ 0 ≤ t ∧ t ≤ 1048576 ∧ ∀ j, j < k → (V.getD j ByteArray.empty).size ≤ 1048576) (fun _ i => len1 - (intOf i).toNat)
        case atStart => exact ⟨0, _, by omega, rfl, rfl, t0, t1, fun j hj => absurd hj (by omega)⟩
        case round =>
          obtain ⟨k2, t2, hk2, rfl, rfl, t20, t21, hVs⟩ := hrel
          have HV := hid hVs
          clear hVs
          by_cases hlt2 : k2 < len1
          · obtain ⟨b, o, ha, g⟩ := R1.out.at hlt2
            subst ha
            by_cases hs : (V.getD k2 ByteArray.empty).size ≤ 1048576
            · have HV2 : Hid (∀ j, j < k2 + 1 → (V.getD j ByteArray.empty).size ≤ 1048576) := fun j hj => by
                rcases Nat.lt_succ_iff_lt_or_eq.1 hj with h | rfl
                · exact HV.out j h
                · exact hs
              generalize V.getD k2 ByteArray.empty = s at g hs
              by_cases ht : t2 + s.size ≤ 1048576
              · go_wp2
                go_round
                case rel => exact ⟨k2 + 1, _, by omega, by go_num, rfl, by omega, by omega, HV2.out⟩
                case measure => simp [intOf]; omega
              · go_wp2
                go_ret
                exact ⟨rfl, Below.refl _ _⟩
            · generalize V.getD k2 ByteArray.empty = s at g hs
              go_wp2
              go_ret
              exact ⟨rfl, Below.refl _ _⟩
          · have HVs : Hid (∀ j, j < len1 → (V.getD j ByteArray.empty).size ≤ 1048576) := fun j hj => HV.out j (by omega)
            clear HV
            go_wp2_with fail
            refine (copyS_any a0 len0 cap0 K _ R0.out (by omega)).mono ?_
            rintro e W1 ⟨a0', c0', rfl, own0, B1⟩
            go_wp2_with fail
            refine (copyS_any a1 len1 cap1 V _ (R1.out.later B1) (by omega)).mono ?_
            rintro e W2 ⟨a1', c1', rfl, own1, B2⟩
            have B2' : Below w.heap.size w W2 := B1.trans (B2.mono B1.size)
            go_wp2_with fail
            refine (copyB_any a2 len2 cap2 L _ (R2.out.later B2') (by omega)).mono ?_
            rintro e W3 ⟨a2', c2', rfl, own2, B3⟩
            have bel : Below w.heap.size w W3 := B2'.trans (B3.mono B2'.size)
            have rdT : Rd (Value.int .u8) 0 W3 (.slice a2' len2 c2') L := Rd.of_own own2
            have rdV : Rd Value.string ByteArray.empty W3 (.slice a1' len1 c1') V := (Rd.of_own own1).later B3
            have rdK : Rd Value.string ByteArray.empty W3 (.slice a0' len0 c0') K := ((Rd.of_own own0).later B2).later B3
            clear own0 own1 own2 B1 B2 B2' B3 R0 R1 R2
            rcases Nat.lt_or_ge len1 len0 with hmin | hmin
            · obtain ⟨N, hN⟩ : ∃ N, N = len1 := ⟨_, rfl⟩
              subst hN
              go_wp2_with fail
              go_loopw [13] (fun i wr => ∃ k : Nat, k ≤ N ∧ i = .int .i64 k ∧ Mp wr W3.heap.size k (st K V k).1 (st K V k).2 ∧ Mp wr (W3.heap.size + 1) k (st K V k).1 (st K V k).2 ∧ Below W3.heap.size W3 wr) (fun i _ => N - (intOf i).toNat)
              case atStart => exact ⟨0, Nat.zero_le _, rfl, (Mp_made W3).kept (World.grownBy_alloc _ _ none) (by simp), by have := Mp_made (W3.alloc (.map #[] 0)); rw [World.size_alloc] at this; exact this, ((Below.refl _ _).alloc (Nat.le_refl _) _).alloc (by simp) _⟩
              case round =>
                obtain ⟨k3, hk3, rfl, hm, hr, hnx⟩ := hrel
                by_cases hlt3 : k3 < N
                · obtain ⟨bk, ok, ha, gk⟩ := (rdK.later hnx).at (i := k3) (by omega)
                  subst ha
                  obtain ⟨bv, ov, ha, gv⟩ := (rdV.later hnx).at (i := k3) (by omega)
                  subst ha
                  have sk := HKs.out k3 (by omega)
                  have sv := HVs.out k3 (by omega)
                  have HST1 : Hid (st K V (k3 + 1) = (upd (st K V k3).1 (K.getD k3 ByteArray.empty) (V.getD k3 ByteArray.empty), cnt (st K V k3).1 (K.getD k3 ByteArray.empty) (st K V k3).2)) := rfl
                  generalize K.getD k3 ByteArray.empty = s at gk sk HST1
                  generalize V.getD k3 ByteArray.empty = v at gv sv HST1
                  obtain ⟨W5, hrun5, hm5, hg5⟩ := hm.drew.update (k := s) (v := v) (by unfold maxLen; omega) (by unfold maxLen; omega) (by unfold maxLen; omega)
                  have B5 := hnx.drew.grown hg5 hnx.size (fun k hk => by cases hk; exact Nat.le_refl _)
                  have hr5 := hr.drew.kept hg5 (by simp)
                  have hbk : bk < W3.heap.size := by
                    obtain ⟨b', o', h', g'⟩ := rdK.at (i := k3) (by omega)
                    simp only [Option.some.injEq, Addr.mk.injEq, and_true] at h'
                    obtain ⟨rfl, rfl⟩ := h'
                    exact World.block_lt_of_cell? W3 _ g'
                  have hbv : bv < W3.heap.size := by
                    obtain ⟨b', o', h', g'⟩ := rdV.at (i := k3) (by omega)
                    simp only [Option.some.injEq, Addr.mk.injEq, and_true] at h'
                    obtain ⟨rfl, rfl⟩ := h'
                    exact World.block_lt_of_cell? W3 _ g'
                  have gk5 : W5.cell? ⟨bk, ok + k3, none⟩ = some (.string s) := by rw [B5.cell hbk, ← hnx.cell hbk]; exact gk
                  have gv5 : W5.cell? ⟨bv, ov + k3, none⟩ = some (.string v) := by rw [B5.cell hbv, ← hnx.cell hbv]; exact gv
                  obtain ⟨W6, hrun6, hr6, hg6⟩ := hr5.drew.update (k := s) (v := v) (by unfold maxLen; omega) (by unfold maxLen; omega) (by unfold maxLen; omega)
                  have hm6 := hm5.drew.kept hg6 (by simp)
                  have B6 := B5.drew.grown hg6 B5.size (fun k hk => by cases hk; omega)
                  clear hm5 hr5 hg5 hg6 hm hr B5
                  go_wp2
                  go_region
                  go_wp2
                  go_region
                  go_wp2
                  go_roundw
                  case rel => exact ⟨k3 + 1, by omega, by go_num, by rw [HST1.out]; exact hm6, by rw [HST1.out]; exact hr6, B6⟩
                  case measure => simp [intOf]; omega
                · have hkN : k3 = N := by omega
                  subst hkN
                  have HN1 : Hid (∀ t, (∀ j, j < k3 → K.getD j ByteArray.empty ≠ t) → (st K V k3).1 t = none) := fun t h => st_none K V t k3 h
                  have HN2 : Hid (∀ i, i < k3 → (∀ j, i < j → j < k3 → K.getD j ByteArray.empty ≠ K.getD i ByteArray.empty) → (st K V k3).1 (K.getD i ByteArray.empty) = some (V.getD i ByteArray.empty)) := fun i h1 h2 => st_last K V i k3 h1 h2
                  have HN3 : Hid (∀ i, i < k3 → ∃ v, (st K V k3).1 (K.getD i ByteArray.empty) = some v) := fun i h => st_some K V i k3 h
                  have hC := hm.le
                  generalize (st K V k3).1 = F at hm hr HN1 HN2 HN3
                  generalize (st K V k3).2 = C at hm hr hC
                  have hln := fun ty => hm.len ty
                  have hcv := Rd.text (rdT.later hnx)
                  have rdK3 := rdK.later hnx
                  have rdV3 := rdV.later hnx
                  have rdT3 := rdT.later hnx
                  have hL : L.length ≤ 1048576 := by have := rdT.len; omega
                  have hTs : (tx L).size ≤ maxLen := by rw [tx_size]; unfold maxLen; omega
                  go_wp2
                  go_loop [16, 17, 18] (fun fd wt i => ∃ j : Nat, j ≤ k3 ∧ fd = .bool false ∧ wt = .string ⟨#[]⟩ ∧ i = .int .i64 ((j : Int) - 1) ∧ ∀ x, j ≤ x → x < k3 → K.getD x ByteArray.empty ≠ tx L) (fun _ _ i => (intOf i + 1).toNat)
                  case atStart => exact ⟨k3, Nat.le_refl _, rfl, rfl, rfl, fun x h1 h2 => absurd h2 (by omega)⟩
                  case round =>
                    obtain ⟨j, hj, rfl, rfl, rfl, hno⟩ := hrel
                    have HNO := hid hno
                    clear hno
                    rcases Nat.eq_zero_or_pos j with hj0 | hj0
                    · subst hj0
                      go_wp2_with fail
                      have HFn : Hid (F (tx L) = none) := HN1.out (tx L) (fun x hx => HNO.out x (Nat.zero_le _) hx)
                      refine (zzKeep_none W3.heap.size k3 C F a2' len2 c2' L wr rdT3 hL hm (by omega) HFn.out).mono ?_
                      rintro e W7 ⟨rfl, hm7, hg7⟩
                      have B7 := hnx.grown hg7 hnx.size (fun k hk => by cases hk; exact Nat.le_refl _)
                      have hr7 := hr.kept hg7 (by simp)
                      have hln7 := fun ty => hm7.len ty
                      have hlt7 := (hm7.some_at hTs (upd_same _ _ _)).1
                      have hFm : Hid (∀ x u, F x = some u → upd F (tx L) (tx L) x = some u) := fun x u h => by
                        rw [upd_other _ _ (fun e => by rw [e, HFn.out] at h; cases h)]
                        exact h
                      have hcc : (((C + 1 : Nat) : Int)) = (C : Int) + 1 := by omega
                      clear hln hcv hg7 hm hr rdK3 rdV3 rdT3
                      go_wp2
                      go_loop [22] (fun i => ∃ k5 : Nat, k5 ≤ k3 ∧ i = .int .i64 k5) (fun i => k3 - (intOf i).toNat)
                      case atStart => exact ⟨0, Nat.zero_le _, rfl⟩
                      case round =>
                        obtain ⟨k5, hk5, rfl⟩ := hrel
                        by_cases hlt5 : k5 < k3
                        · obtain ⟨b5, o5, ha, g5⟩ := (rdK.later B7).at (i := k5) (by omega)
                          first | subst ha | (simp only [Option.some.injEq, Addr.mk.injEq, and_true] at ha; obtain ⟨rfl, rfl⟩ := ha)
                          have s5 := HKs.out k5 (by omega)
                          obtain ⟨u5, hu5⟩ := HN3.out k5 hlt5
                          have hne5 := hFm.out (K.getD k5 ByteArray.empty) u5 hu5
                          generalize K.getD k5 ByteArray.empty = x5 at g5 s5 hu5 hne5
                          have hl1 := (hm7.some_at (by unfold maxLen; omega) hne5).1
                          have hl2 := (hr7.some_at (by unfold maxLen; omega) hu5).2
                          clear hu5 hne5
                          go_wp2
                          go_round
                          case rel => exact ⟨k5 + 1, by omega, by go_num⟩
                          case measure => simp [intOf]; omega
                        · go_wp2
                          go_ret
                          exact ⟨rfl, bel.trans (B7.mono bel.size)⟩
                    · obtain ⟨q, rfl⟩ : ∃ q, j = q + 1 := ⟨j - 1, by omega⟩
                      have eq : (((q + 1 : Nat) : Int) - 1) = (q : Int) := by omega
                      rw [eq]
                      obtain ⟨bk, ok, ha, gk⟩ := rdK3.at (i := q) (by omega)
                      subst ha
                      by_cases hkq : K.getD q ByteArray.empty = tx L
                      · rw [hkq] at gk
                        obtain ⟨bv, ov, ha, gv⟩ := rdV3.at (i := q) (by omega)
                        subst ha
                        have HFq : Hid (F (tx L) = some (V.getD q ByteArray.empty)) := by
                          have h := HN2.out q (by omega) (fun x h1 h2 => by rw [hkq]; exact HNO.out x (by omega) h2)
                          rw [hkq] at h
                          exact h
                        clear hkq
                        generalize V.getD q ByteArray.empty = v at gv HFq
                        go_wp2_with fail
                        refine (zzKeep_some W3.heap.size k3 C F a2' len2 c2' L v wr rdT3 hL hm HFq.out).mono ?_
                        rintro e W7 ⟨rfl, hm7, hg7⟩
                        have B7 := hnx.grown hg7 hnx.size (fun k hk => by cases hk; exact Nat.le_refl _)
                        have hr7 := hr.kept hg7 (by simp)
                        have hln7 := fun ty => hm7.len ty
                        have hFm : Hid (∀ x u, F x = some u → F x = some u) := fun x u h => h
                        clear hln hcv hg7 hm hr rdK3 rdV3 rdT3
                        go_wp2
                        go_loop [22] (fun i => ∃ k5 : Nat, k5 ≤ k3 ∧ i = .int .i64 k5) (fun i => k3 - (intOf i).toNat)
                        case atStart => exact ⟨0, Nat.zero_le _, rfl⟩
                        case round =>
                          obtain ⟨k5, hk5, rfl⟩ := hrel
                          by_cases hlt5 : k5 < k3
                          · obtain ⟨b5, o5, ha, g5⟩ := (rdK.later B7).at (i := k5) (by omega)
                            first | subst ha | (simp only [Option.some.injEq, Addr.mk.injEq, and_true] at ha; obtain ⟨rfl, rfl⟩ := ha)
                            have s5 := HKs.out k5 (by omega)
                            obtain ⟨u5, hu5⟩ := HN3.out k5 hlt5
                            have hne5 := hFm.out (K.getD k5 ByteArray.empty) u5 hu5
                            generalize K.getD k5 ByteArray.empty = x5 at g5 s5 hu5 hne5
                            have hl1 := (hm7.some_at (by unfold maxLen; omega) hne5).1
                            have hl2 := (hr7.some_at (by unfold maxLen; omega) hu5).2
                            clear hu5 hne5
                            go_wp2
                            go_round
                            case rel => exact ⟨k5 + 1, by omega, by go_num⟩
                            case measure => simp [intOf]; omega
                          · go_wp2
                            go_ret
                            exact ⟨rfl, bel.trans (B7.mono bel.size)⟩
                      · have HNO2 : Hid (∀ x, q ≤ x → x < k3 → K.getD x ByteArray.empty ≠ tx L) := fun x h1 h2 => by
                          rcases Nat.eq_or_lt_of_le h1 with rfl | h
                          · exact hkq
                          · exact HNO.out x h h2
                        have hkb : ((K.getD q ByteArray.empty).toList == (tx L).toList) = false := ba_ne hkq
                        clear hkq
                        generalize K.getD q ByteArray.empty = s at gk hkb
                        go_wp2
                        go_round
                        case rel => exact ⟨q, by omega, rfl, rfl, by go_num, HNO2.out⟩
                        case measure => simp [intOf]
            · obtain ⟨N, hN⟩ : ∃ N, N = len0 := ⟨_, rfl⟩
              subst hN
              go_wp2_with fail
              go_loopw [13] (fun i wr => ∃ k : Nat, k ≤ N ∧ i = .int .i64 k ∧ Mp wr W3.heap.size k (st K V k).1 (st K V k).2 ∧ Mp wr (W3.heap.size + 1) k (st K V k).1 (st K V k).2 ∧ Below W3.heap.size W3 wr) (fun i _ => N - (intOf i).toNat)
              case atStart => exact ⟨0, Nat.zero_le _, rfl, (Mp_made W3).kept (World.grownBy_alloc _ _ none) (by simp), by have := Mp_made (W3.alloc (.map #[] 0)); rw [World.size_alloc] at this; exact this, ((Below.refl _ _).alloc (Nat.le_refl _) _).alloc (by simp) _⟩
              case round =>
                obtain ⟨k3, hk3, rfl, hm, hr, hnx⟩ := hrel
                by_cases hlt3 : k3 < N
                · obtain ⟨bk, ok, ha, gk⟩ := (rdK.later hnx).at (i := k3) (by omega)
                  subst ha
                  obtain ⟨bv, ov, ha, gv⟩ := (rdV.later hnx).at (i := k3) (by omega)
                  subst ha
                  have sk := HKs.out k3 (by omega)
                  have sv := HVs.out k3 (by omega)
                  have HST1 : Hid (st K V (k3 + 1) = (upd (st K V k3).1 (K.getD k3 ByteArray.empty) (V.getD k3 ByteArray.empty), cnt (st K V k3).1 (K.getD k3 ByteArray.empty) (st K V k3).2)) := rfl
                  generalize K.getD k3 ByteArray.empty = s at gk sk HST1
                  generalize V.getD k3 ByteArray.empty = v at gv sv HST1
                  obtain ⟨W5, hrun5, hm5, hg5⟩ := hm.drew.update (k := s) (v := v) (by unfold maxLen; omega) (by unfold maxLen; omega) (by unfold maxLen; omega)
                  have B5 := hnx.drew.grown hg5 hnx.size (fun k hk => by cases hk; exact Nat.le_refl _)
                  have hr5 := hr.drew.kept hg5 (by simp)
                  have hbk : bk < W3.heap.size := by
                    obtain ⟨b', o', h', g'⟩ := rdK.at (i := k3) (by omega)
                    simp only [Option.some.injEq, Addr.mk.injEq, and_true] at h'
                    obtain ⟨rfl, rfl⟩ := h'
                    exact World.block_lt_of_cell? W3 _ g'
                  have hbv : bv < W3.heap.size := by
                    obtain ⟨b', o', h', g'⟩ := rdV.at (i := k3) (by omega)
                    simp only [Option.some.injEq, Addr.mk.injEq, and_true] at h'
                    obtain ⟨rfl, rfl⟩ := h'
                    exact World.block_lt_of_cell? W3 _ g'
                  have gk5 : W5.cell? ⟨bk, ok + k3, none⟩ = some (.string s) := by rw [B5.cell hbk, ← hnx.cell hbk]; exact gk
                  have gv5 : W5.cell? ⟨bv, ov + k3, none⟩ = some (.string v) := by rw [B5.cell hbv, ← hnx.cell hbv]; exact gv
                  obtain ⟨W6, hrun6, hr6, hg6⟩ := hr5.drew.update (k := s) (v := v) (by unfold maxLen; omega) (by unfold maxLen; omega) (by unfold maxLen; omega)
                  have hm6 := hm5.drew.kept hg6 (by simp)
                  have B6 := B5.drew.grown hg6 B5.size (fun k hk => by cases hk; omega)
                  clear hm5 hr5 hg5 hg6 hm hr B5
                  go_wp2
                  go_region
                  go_wp2
                  go_region
                  go_wp2
                  go_roundw
                  case rel => exact ⟨k3 + 1, by omega, by go_num, by rw [HST1.out]; exact hm6, by rw [HST1.out]; exact hr6, B6⟩
                  case measure => simp [intOf]; omega
                · have hkN : k3 = N := by omega
                  subst hkN
                  have HN1 : Hid (∀ t, (∀ j, j < k3 → K.getD j ByteArray.empty ≠ t) → (st K V k3).1 t = none) := fun t h => st_none K V t k3 h
                  have HN2 : Hid (∀ i, i < k3 → (∀ j, i < j → j < k3 → K.getD j ByteArray.empty ≠ K.getD i ByteArray.empty) → (st K V k3).1 (K.getD i ByteArray.empty) = some (V.getD i ByteArray.empty)) := fun i h1 h2 => st_last K V i k3 h1 h2
                  have HN3 : Hid (∀ i, i < k3 → ∃ v, (st K V k3).1 (K.getD i ByteArray.empty) = some v) := fun i h => st_some K V i k3 h
                  have hC := hm.le
                  generalize (st K V k3).1 = F at hm hr HN1 HN2 HN3
                  generalize (st K V k3).2 = C at hm hr hC
                  have hln := fun ty => hm.len ty
                  have hcv := Rd.text (rdT.later hnx)
                  have rdK3 := rdK.later hnx
                  have rdV3 := rdV.later hnx
                  have rdT3 := rdT.later hnx
                  have hL : L.length ≤ 1048576 := by have := rdT.len; omega
                  have hTs : (tx L).size ≤ maxLen := by rw [tx_size]; unfold maxLen; omega
                  go_wp2
                  go_loop [16, 17, 18] (fun fd wt i => ∃ j : Nat, j ≤ k3 ∧ fd = .bool false ∧ wt = .string ⟨#[]⟩ ∧ i = .int .i64 ((j : Int) - 1) ∧ ∀ x, j ≤ x → x < k3 → K.getD x ByteArray.empty ≠ tx L) (fun _ _ i => (intOf i + 1).toNat)
                  case atStart => exact ⟨k3, Nat.le_refl _, rfl, rfl, rfl, fun x h1 h2 => absurd h2 (by omega)⟩
                  case round =>
                    obtain ⟨j, hj, rfl, rfl, rfl, hno⟩ := hrel
                    have HNO := hid hno
                    clear hno
                    rcases Nat.eq_zero_or_pos j with hj0 | hj0
                    · subst hj0
                      go_wp2_with fail
                      have HFn : Hid (F (tx L) = none) := HN1.out (tx L) (fun x hx => HNO.out x (Nat.zero_le _) hx)
                      refine (zzKeep_none W3.heap.size k3 C F a2' len2 c2' L wr rdT3 hL hm (by omega) HFn.out).mono ?_
                      rintro e W7 ⟨rfl, hm7, hg7⟩
                      have B7 := hnx.grown hg7 hnx.size (fun k hk => by cases hk; exact Nat.le_refl _)
                      have hr7 := hr.kept hg7 (by simp)
                      have hln7 := fun ty => hm7.len ty
                      have hlt7 := (hm7.some_at hTs (upd_same _ _ _)).1
                      have hFm : Hid (∀ x u, F x = some u → upd F (tx L) (tx L) x = some u) := fun x u h => by
                        rw [upd_other _ _ (fun e => by rw [e, HFn.out] at h; cases h)]
                        exact h
                      have hcc : (((C + 1 : Nat) : Int)) = (C : Int) + 1 := by omega
                      clear hln hcv hg7 hm hr rdK3 rdV3 rdT3
                      go_wp2
                      go_loop [22] (fun i => ∃ k5 : Nat, k5 ≤ k3 ∧ i = .int .i64 k5) (fun i => k3 - (intOf i).toNat)
                      case atStart => exact ⟨0, Nat.zero_le _, rfl⟩
                      case round =>
                        obtain ⟨k5, hk5, rfl⟩ := hrel
                        by_cases hlt5 : k5 < k3
                        · obtain ⟨b5, o5, ha, g5⟩ := (rdK.later B7).at (i := k5) (by omega)
                          first | subst ha | (simp only [Option.some.injEq, Addr.mk.injEq, and_true] at ha; obtain ⟨rfl, rfl⟩ := ha)
                          have s5 := HKs.out k5 (by omega)
                          obtain ⟨u5, hu5⟩ := HN3.out k5 hlt5
                          have hne5 := hFm.out (K.getD k5 ByteArray.empty) u5 hu5
                          generalize K.getD k5 ByteArray.empty = x5 at g5 s5 hu5 hne5
                          have hl1 := (hm7.some_at (by unfold maxLen; omega) hne5).1
                          have hl2 := (hr7.some_at (by unfold maxLen; omega) hu5).2
                          clear hu5 hne5
                          go_wp2
                          go_round
                          case rel => exact ⟨k5 + 1, by omega, by go_num⟩
                          case measure => simp [intOf]; omega
                        · go_wp2
                          go_ret
                          exact ⟨rfl, bel.trans (B7.mono bel.size)⟩
                    · obtain ⟨q, rfl⟩ : ∃ q, j = q + 1 := ⟨j - 1, by omega⟩
                      have eq : (((q + 1 : Nat) : Int) - 1) = (q : Int) := by omega
                      rw [eq]
                      obtain ⟨bk, ok, ha, gk⟩ := rdK3.at (i := q) (by omega)
                      subst ha
                      by_cases hkq : K.getD q ByteArray.empty = tx L
                      · rw [hkq] at gk
                        obtain ⟨bv, ov, ha, gv⟩ := rdV3.at (i := q) (by omega)
                        subst ha
                        have HFq : Hid (F (tx L) = some (V.getD q ByteArray.empty)) := by
                          have h := HN2.out q (by omega) (fun x h1 h2 => by rw [hkq]; exact HNO.out x (by omega) h2)
                          rw [hkq] at h
                          exact h
                        clear hkq
                        generalize V.getD q ByteArray.empty = v at gv HFq
                        go_wp2_with fail
                        refine (zzKeep_some W3.heap.size k3 C F a2' len2 c2' L v wr rdT3 hL hm HFq.out).mono ?_
                        rintro e W7 ⟨rfl, hm7, hg7⟩
                        have B7 := hnx.grown hg7 hnx.size (fun k hk => by cases hk; exact Nat.le_refl _)
                        have hr7 := hr.kept hg7 (by simp)
                        have hln7 := fun ty => hm7.len ty
                        have hFm : Hid (∀ x u, F x = some u → F x = some u) := fun x u h => h
                        clear hln hcv hg7 hm hr rdK3 rdV3 rdT3
                        go_wp2
                        go_loop [22] (fun i => ∃ k5 : Nat, k5 ≤ k3 ∧ i = .int .i64 k5) (fun i => k3 - (intOf i).toNat)
                        case atStart => exact ⟨0, Nat.zero_le _, rfl⟩
                        case round =>
                          obtain ⟨k5, hk5, rfl⟩ := hrel
                          by_cases hlt5 : k5 < k3
                          · obtain ⟨b5, o5, ha, g5⟩ := (rdK.later B7).at (i := k5) (by omega)
                            first | subst ha | (simp only [Option.some.injEq, Addr.mk.injEq, and_true] at ha; obtain ⟨rfl, rfl⟩ := ha)
                            have s5 := HKs.out k5 (by omega)
                            obtain ⟨u5, hu5⟩ := HN3.out k5 hlt5
                            have hne5 := hFm.out (K.getD k5 ByteArray.empty) u5 hu5
                            generalize K.getD k5 ByteArray.empty = x5 at g5 s5 hu5 hne5
                            have hl1 := (hm7.some_at (by unfold maxLen; omega) hne5).1
                            have hl2 := (hr7.some_at (by unfold maxLen; omega) hu5).2
                            clear hu5 hne5
                            go_wp2
                            go_round
                            case rel => exact ⟨k5 + 1, by omega, by go_num⟩
                            case measure => simp [intOf]; omega
                          · go_wp2
                            go_ret
                            exact ⟨rfl, bel.trans (B7.mono bel.size)⟩
                      · have HNO2 : Hid (∀ x, q ≤ x → x < k3 → K.getD x ByteArray.empty ≠ tx L) := fun x h1 h2 => by
                          rcases Nat.eq_or_lt_of_le h1 with rfl | h
                          · exact hkq
                          · exact HNO.out x h h2
                        have hkb : ((K.getD q ByteArray.empty).toList == (tx L).toList) = false := ba_ne hkq
                        clear hkq
                        generalize K.getD q ByteArray.empty = s at gk hkb
                        go_wp2
                        go_round
                        case rel => exact ⟨q, by omega, rfl, rfl, by go_num, HNO2.out⟩
                        case measure => simp [intOf]

end Go.Proofs.Qxb6602597aMods
