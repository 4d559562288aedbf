import Derived.Test.Qxb6602889aModsDig
import Derived.Laws.BytesArg
namespace Go.Proofs.Qxb6602889aMods
open Go.ChangeShapes Go.WideShapes Go.ChangeAt Go.RowKit
set_option linter.unusedVariables false
set_option linter.unusedSimpArgs false

set_option maxHeartbeats 400000 in
theorem zz_of {z : ByteArray} {r : Int × Bool} (h : ∀ w, Calls Trym.prog 15 #[.string z] w fun x w' => x = .returned (.tuple #[.int .i64 r.1, .bool r.2]) ∧ ∃ n, w' = w.drewN n) (w : World) :
    Calls Trym.prog 8 #[.string z] w fun x w' => x = .returned (.tuple #[.int .i64 r.1, .bool r.2]) ∧ ∃ n, w' = w.drewN n := by
  have H := hid h
  clear h
  go_enter Trym.func8, Trym.ntmps8
  go_wp2_with fail
  refine Calls.mono (H.out _) ?_
  rintro e w1 ⟨rfl, nd, rfl⟩
  go_wp2
  go_ret2
  exact ⟨rfl, ⟨nd, rfl⟩⟩

theorem cell_new (w : World) (cs : Array Value) (t : TypeId) (i : Nat) : (w.alloc (.cells cs t)).cell? ⟨w.heap.size, i, none⟩ = cs[i]? :=
  cell_of_row _ w.heap.size i cs t (0, 0) (heap_alloc_new w _)

theorem conv_new (w : World) (l : List Int) : Sem.run Trym.prog (convert 27 9 (.slice (some ⟨w.heap.size, 0, none⟩) l.length l.length)) (w.alloc (.cells (l.map (Value.int .u8)).toArray 5)) =
    .ok (.string (strOfNums l)) (w.alloc (.cells (l.map (Value.int .u8)).toArray 5)) :=
  run_convert_bytes_arg _ 27 5 Trym.underlying27 Trym.underlying5 w.heap.size 0 l.length l.length l rfl (fun i hi => by
    rw [Nat.zero_add, cell_new]
    simp [List.getD, hi]) 9 Trym.underlying9
theorem conv6 (w : World) (a b c d e f : Int) : Sem.run Trym.prog (convert 27 9 (.slice (some ⟨w.heap.size, 0, none⟩) 6 6)) (w.alloc (.cells #[.int .u8 a, .int .u8 b, .int .u8 c, .int .u8 d, .int .u8 e, .int .u8 f] 5)) =
    .ok (.string (strOfNums [a, b, c, d, e, f])) (w.alloc (.cells #[.int .u8 a, .int .u8 b, .int .u8 c, .int .u8 d, .int .u8 e, .int .u8 f] 5)) := conv_new w [a, b, c, d, e, f]
theorem conv3 (w : World) (a b c : Int) : Sem.run Trym.prog (convert 27 9 (.slice (some ⟨w.heap.size, 0, none⟩) 3 3)) (w.alloc (.cells #[.int .u8 a, .int .u8 b, .int .u8 c] 5)) =
    .ok (.string (strOfNums [a, b, c])) (w.alloc (.cells #[.int .u8 a, .int .u8 b, .int .u8 c] 5)) := conv_new w [a, b, c]

set_option maxHeartbeats 1600000 in
theorem rend_pl (m : Int) (w : World) (h1 : 0 ≤ m) (h2 : m ≤ 1439) :
    Calls Trym.prog 10 #[.int .i64 m, .bool true] w fun x w' => x = .returned (.string (strOfNums [43, 48 + m / 60 / 10, 48 + m / 60 % 10, 58, 48 + m % 60 / 10, 48 + m % 10])) ∧ Grown w w' := by
  have hcv := conv6
  go_enter Trym.func10, Trym.ntmps10
  go_wp2
  go_ret
  exact ⟨rfl, (Grown.refl _).alloc _ _⟩
set_option maxHeartbeats 1600000 in
theorem rend_ps (m : Int) (w : World) (h1 : 0 ≤ m) (h2 : m ≤ 1439) :
    Calls Trym.prog 10 #[.int .i64 m, .bool false] w fun x w' => x = .returned (.string (strOfNums [43, 48 + m / 60 / 10, 48 + m / 60 % 10])) ∧ Grown w w' := by
  have hcv := conv3
  go_enter Trym.func10, Trym.ntmps10
  go_wp2
  go_ret
  exact ⟨rfl, (Grown.refl _).alloc _ _⟩
set_option maxHeartbeats 1600000 in
theorem rend_nl (m : Int) (w : World) (h1 : 0 < m) (h2 : m ≤ 1439) :
    Calls Trym.prog 10 #[.int .i64 (-m), .bool true] w fun x w' => x = .returned (.string (strOfNums [45, 48 + m / 60 / 10, 48 + m / 60 % 10, 58, 48 + m % 60 / 10, 48 + m % 10])) ∧ Grown w w' := by
  have hcv := conv6
  go_enter Trym.func10, Trym.ntmps10
  go_wp2
  go_ret
  exact ⟨rfl, (Grown.refl _).alloc _ _⟩
set_option maxHeartbeats 1600000 in
theorem rend_ns (m : Int) (w : World) (h1 : 0 < m) (h2 : m ≤ 1439) :
    Calls Trym.prog 10 #[.int .i64 (-m), .bool false] w fun x w' => x = .returned (.string (strOfNums [45, 48 + m / 60 / 10, 48 + m / 60 % 10])) ∧ Grown w w' := by
  have hcv := conv3
  go_enter Trym.func10, Trym.ntmps10
  go_wp2
  go_ret
  exact ⟨rfl, (Grown.refl _).alloc _ _⟩

theorem u8_back {c : Int} (h0 : 0 ≤ c) (h1 : c ≤ 255) : (((UInt8.ofNat c.toNat).toNat : Nat) : Int) = c := by
  rw [UInt8.toNat_ofNat']
  omega

theorem d2_of {h : Int} (h0 : 0 ≤ h) (h1 : h ≤ 99) : d2 (48 + h / 10) (48 + h % 10) = h := by
  rw [d2_yes (by omega) (by omega) (by omega) (by omega)]
  omega

theorem back6 (s m : Int) (hs : s = 43 ∨ s = 45) (h0 : 0 ≤ m) (h1 : m ≤ 1439) : o6 s (48 + m / 60 / 10) (48 + m / 60 % 10) 58 (48 + m % 60 / 10) (48 + m % 10) = (sg s m, true) := by
  have e : m % 10 = m % 60 % 10 := by omega
  unfold o6
  rw [e, d2_of (by omega) (by omega), d2_of (h := m % 60) (by omega) (by omega), if_pos ⟨hs, rfl, by omega, by omega, by omega, by omega⟩]
  rw [show m / 60 * 60 + m % 60 = m from by omega]
theorem back3 (s m : Int) (hs : s = 43 ∨ s = 45) (h0 : 0 ≤ m) (h1 : m ≤ 1439) (hm : m % 60 = 0) : o3 s (48 + m / 60 / 10) (48 + m / 60 % 10) = (sg s m, true) := by
  unfold o3
  rw [d2_of (by omega) (by omega), if_pos ⟨hs, by omega, by omega⟩]
  rw [show m / 60 * 60 = m from by omega]

theorem read6 (s m : Int) (hs : s = 43 ∨ s = 45) (h0 : 0 ≤ m) (h1 : m ≤ 1439) (w : World) :
    Calls Trym.prog 8 #[.string (strOfNums [s, 48 + m / 60 / 10, 48 + m / 60 % 10, 58, 48 + m % 60 / 10, 48 + m % 10])] w fun x w' => x = .returned (.tuple #[.int .i64 (sg s m), .bool true]) ∧ ∃ n, w' = w.drewN n := by
  refine zz_of (r := (sg s m, true)) (fun w => ?_) w
  have h := utc6 (UInt8.ofNat s.toNat) (UInt8.ofNat (48 + m / 60 / 10).toNat) (UInt8.ofNat (48 + m / 60 % 10).toNat) (UInt8.ofNat (58 : Int).toNat) (UInt8.ofNat (48 + m % 60 / 10).toNat) (UInt8.ofNat (48 + m % 10).toNat) w
  rw [u8_back (by omega) (by omega), u8_back (by omega) (by omega), u8_back (by omega) (by omega), u8_back (by omega) (by omega), u8_back (by omega) (by omega), u8_back (by omega) (by omega), back6 s m hs h0 h1] at h
  exact h
theorem read3 (s m : Int) (hs : s = 43 ∨ s = 45) (h0 : 0 ≤ m) (h1 : m ≤ 1439) (hm : m % 60 = 0) (w : World) :
    Calls Trym.prog 8 #[.string (strOfNums [s, 48 + m / 60 / 10, 48 + m / 60 % 10])] w fun x w' => x = .returned (.tuple #[.int .i64 (sg s m), .bool true]) ∧ ∃ n, w' = w.drewN n := by
  refine zz_of (r := (sg s m, true)) (fun w => ?_) w
  have h := utc3 (UInt8.ofNat s.toNat) (UInt8.ofNat (48 + m / 60 / 10).toNat) (UInt8.ofNat (48 + m / 60 % 10).toNat) w
  rw [u8_back (by omega) (by omega), u8_back (by omega) (by omega), u8_back (by omega) (by omega), back3 s m hs h0 h1 hm] at h
  exact h

theorem grown_drewN {w w' : World} (h : Grown w w') (n : Nat) : Grown w (w'.drewN n) := h

set_option maxHeartbeats 400000 in
theorem trip_pos (m : Int) (b : Bool) (w : World) (h1 : 0 ≤ m) (h2 : m ≤ 1439) :
    Calls Trym.prog 4 #[.int .i64 m, .bool b] w fun x w' => x = .returned (.bool true) ∧ Grown w w' := by
  cases b with
  | false =>
    go_enter Trym.func4, Trym.ntmps4
    go_wp2_with fail
    refine (rend_pl m _ h1 h2).mono ?_
    rintro e w1 ⟨rfl, hg⟩
    go_wp2_with fail
    refine (read6 43 m (.inl rfl) h1 h2 _).mono ?_
    rintro e w2 ⟨rfl, nd, rfl⟩
    rw [sg_plus]
    go_wp2
    go_ret
    exact ⟨rfl, grown_drewN hg _⟩
  | true =>
    by_cases hm : m % 60 = 0
    · go_enter Trym.func4, Trym.ntmps4
      go_wp2_with fail
      refine (rend_ps m _ h1 h2).mono ?_
      rintro e w1 ⟨rfl, hg⟩
      go_wp2_with fail
      refine (read3 43 m (.inl rfl) h1 h2 hm _).mono ?_
      rintro e w2 ⟨rfl, nd, rfl⟩
      rw [sg_plus]
      go_wp2
      go_ret
      exact ⟨rfl, grown_drewN hg _⟩
    · have hmb : (m % 60 == 0) = false := beq_eq_false_iff_ne.2 hm
      have hmn : (m % 60 != 0) = true := by rw [bne_iff_ne]; exact hm
      go_enter Trym.func4, Trym.ntmps4
      go_wp2_with fail
      refine (rend_pl m _ h1 h2).mono ?_
      rintro e w1 ⟨rfl, hg⟩
      go_wp2_with fail
      refine (read6 43 m (.inl rfl) h1 h2 _).mono ?_
      rintro e w2 ⟨rfl, nd, rfl⟩
      rw [sg_plus]
      go_wp2
      go_ret
      exact ⟨rfl, grown_drewN hg _⟩

set_option maxHeartbeats 400000 in
theorem trip_neg (m : Int) (b : Bool) (w : World) (h1 : 0 < m) (h2 : m ≤ 1439) :
    Calls Trym.prog 4 #[.int .i64 (-m), .bool b] w fun x w' => x = .returned (.bool true) ∧ Grown w w' := by
  cases b with
  | false =>
    go_enter Trym.func4, Trym.ntmps4
    go_wp2_with fail
    refine (rend_nl m _ h1 h2).mono ?_
    rintro e w1 ⟨rfl, hg⟩
    go_wp2_with fail
    refine (read6 45 m (.inr rfl) (by omega) h2 _).mono ?_
    rintro e w2 ⟨rfl, nd, rfl⟩
    rw [sg_minus]
    go_wp2
    go_ret
    exact ⟨rfl, grown_drewN hg _⟩
  | true =>
    by_cases hm : m % 60 = 0
    · go_enter Trym.func4, Trym.ntmps4
      go_wp2_with fail
      refine (rend_ns m _ h1 h2).mono ?_
      rintro e w1 ⟨rfl, hg⟩
      go_wp2_with fail
      refine (read3 45 m (.inr rfl) (by omega) h2 hm _).mono ?_
      rintro e w2 ⟨rfl, nd, rfl⟩
      rw [sg_minus]
      go_wp2
      go_ret
      exact ⟨rfl, grown_drewN hg _⟩
    · have hmb : (m % 60 == 0) = false := beq_eq_false_iff_ne.2 hm
      have hmn : (m % 60 != 0) = true := by rw [bne_iff_ne]; exact hm
      have hmn2 : (-(m % 60) != 0) = true := by rw [bne_iff_ne]; omega
      go_enter Trym.func4, Trym.ntmps4
      go_wp2_with fail
      refine (rend_nl m _ h1 h2).mono ?_
      rintro e w1 ⟨rfl, hg⟩
      go_wp2_with fail
      refine (read6 45 m (.inr rfl) (by omega) h2 _).mono ?_
      rintro e w2 ⟨rfl, nd, rfl⟩
      rw [sg_minus]
      go_wp2
      go_ret
      exact ⟨rfl, grown_drewN hg _⟩

set_option maxHeartbeats 400000 in
theorem trip_walk (m : Int) (b : Bool) (w : World) :
    Calls Trym.prog 4 #[.int .i64 m, .bool b] w fun x w' => x = .returned (.bool true) ∧ Grown w w' := by
  by_cases h1 : m < -1439
  · go_enter Trym.func4, Trym.ntmps4
    go_wp2_with fail
    go_ret
    exact ⟨rfl, Grown.refl _⟩
  · by_cases h2 : 1439 < m
    · go_enter Trym.func4, Trym.ntmps4
      go_wp2_with fail
      go_ret
      exact ⟨rfl, Grown.refl _⟩
    · by_cases h3 : 0 ≤ m
      · exact trip_pos m b w h3 (by omega)
      · have h := trip_neg (-m) b w (by omega) (by omega)
        rw [Int.neg_neg] at h
        exact h

end Go.Proofs.Qxb6602889aMods
