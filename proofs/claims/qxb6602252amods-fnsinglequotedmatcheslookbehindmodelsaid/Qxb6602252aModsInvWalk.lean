import Derived.Test.Qxb6602252aModsInv
namespace Go.Proofs.Qxb6602252aMods
open Go.ChangeShapes Go.WideShapes Go.ChangeAt Go.RowKit
set_option linter.unusedVariables false
set_option linter.unusedSimpArgs false

theorem IsRow.max {w : World} {a : Option Addr} {len cap : Nat} {zs : List Int} (h : IsRow .u8 w a len cap zs) : len ≤ maxLen ∧ len ≤ zs.length := by
  rcases h with ⟨_, rfl, _⟩ | ⟨x, _, h2, h3, h4, _⟩
  · exact ⟨Nat.zero_le _, Nat.zero_le _⟩
  · omega

theorem IsRow.first {w : World} {a : Option Addr} {len cap : Nat} {zs : List Int} (h : IsRow .u8 w a len cap zs) (hp : 0 < len) : ∃ b o, a = some ⟨b, o, none⟩ ∧ w.cell? ⟨b, o, none⟩ = some (.int .u8 (zs.getD 0 0)) := by
  rcases h with ⟨_, rfl, _⟩ | ⟨x, rfl, h2, h3, h4, h5, _⟩
  · omega
  · obtain ⟨b, o, rfl, hc⟩ := ints_at h5 (by omega)
    exact ⟨b, o, rfl, hc 0 (by omega)⟩

theorem one_cell (c : Int) : ∀ u ∈ [Value.int .u8 c], u.oneCell' = true := by intro u hu; simp at hu; subst hu; rfl

theorem own_snoc {w : World} {B : Nat} {v : Value} {a : List Int} {n : Nat} {c : Int} (h : w.ownsRow B 5 1 v (n + 1) (bs a ++ [.int .u8 c])) : w.ownsRow B 5 1 v (n + 1) (bs (a ++ [c])) := by
  rw [bs_append]
  exact h

theorem own_cells {w : World} {B g n cap : Nat} {L : List Int} (h : w.ownsRow B 5 1 (.slice (some ⟨g, 0, none⟩) n cap) n (bs L)) :
    n = L.length ∧ ∀ i, i < L.length → w.cell? ⟨g, i, none⟩ = some (.int .u8 (L.getD i 0)) := by
  have h1 := h.1
  rw [bs_length] at h1
  have hn : n = L.length := by omega
  refine ⟨hn, fun i hi => ?_⟩
  rw [h.cellAt i (by omega)]
  simp [bs, List.getD, hi]

theorem quoted_reads {xs t sfx : List Int} {n : Nat} (hx : xs = 39 :: Sq.q t) (hn : n = xs.length) (hs : sfx.head? ≠ some 39) : Sq.R ((xs ++ [39] ++ sfx).drop 1) [] 1 = some (t, n + 1) := by
  subst hx
  have := Sq.R_q t sfx [] 1 hs
  simp only [List.nil_append] at this
  rw [show List.drop 1 ((39 :: Sq.q t) ++ [39] ++ sfx) = Sq.q t ++ 39 :: sfx from by simp, this, hn]
  simp; omega

theorem head_ne {z : List Int} {n : Nat} (hq : 0 < n → z.getD 0 0 ≠ 39) : (z.take n).head? ≠ some 39 := by
  intro h
  have hp : 0 < n := by
    rcases Nat.eq_zero_or_pos n with h0 | h0
    · subst h0; simp at h
    · exact h0
  apply hq hp
  cases z with
  | nil => simp at h
  | cons c t =>
    have : List.take n (c :: t) = c :: t.take (n - 1) := by
      obtain ⟨m, rfl⟩ : ∃ m, n = m + 1 := ⟨n - 1, by omega⟩
      simp
    rw [this] at h
    simpa using h

set_option maxHeartbeats 3200000 in
set_option maxRecDepth 100000 in
theorem inv_main (a0 : Option Addr) (len0 cap0 : Nat) (z0 : List Int) (a1 : Option Addr) (len1 cap1 : Nat) (z1 : List Int) (w : World) (w0 : IsRow .u8 w a0 len0 cap0 z0) (w1 : IsRow .u8 w a1 len1 cap1 z1)
    (hs0 : len0 ≤ 524288) (hs1 : len1 ≤ 524288) (hs : len0 + len1 ≤ 1048576) (hq : 0 < len1 → z1.getD 0 0 ≠ 39) :
    Calls Trym.prog 4 #[.slice a0 len0 cap0, .slice a1 len1 cap1] w fun e w' => e = .returned (.bool true) ∧ Below w.heap.size w w' := by
  obtain ⟨i0, hi, hz0, hz1, hz2⟩ := info_parts Trym.info5
  have m0 := w0.max
  have m1 := w1.max
  have hby : decide (len0 + len1 ≤ 1048576) = true := by simpa using hs
  have e0 : (z0.take len0).length = len0 := by simp; omega
  have e1 : (z1.take len1).length = len1 := by simp; omega
  have He2 : Hid ((z1.take len1).head? ≠ some 39) := head_ne hq
  have hc : ¬ 0 < len1 ∨ ∃ b o c, 0 < len1 ∧ a1 = some ⟨b, o, none⟩ ∧ w.cell? ⟨b, o, none⟩ = some (.int .u8 c) ∧ (c == 39) = false := by
    by_cases hp : 0 < len1
    · obtain ⟨b, o, h1, h2⟩ := w1.first hp
      exact .inr ⟨b, o, _, hp, h1, h2, beq_eq_false_iff_ne.2 (hq hp)⟩
    · exact .inl hp
  clear hq
  have HW0 : Hid (IsRow .u8 w a0 len0 cap0 z0) := w0
  have HW1 : Hid (IsRow .u8 w a1 len1 cap1 z1) := w1
  clear w0 w1
  rcases hc with hp | ⟨b, o, c, hp, rfl, hcc, hcq⟩
  all_goals go_enter Trym.func4, Trym.ntmps4
  all_goals go_wp2_with fail
  all_goals refine (bytes_any _ _ _ _ _ _ _ m0.1 m1.1).mono ?_
  all_goals rintro e w ⟨rfl, rfl⟩
  all_goals rw [hby]
  all_goals go_wp2_with fail
  all_goals refine (clone_use a0 len0 cap0 z0 _ HW0.out (by omega)).mono ?_
  all_goals rintro e W1 ⟨a0', c0', rfl, rd0, bel1⟩
  all_goals go_wp2_with fail
  all_goals refine (clone_use _ len1 cap1 z1 _ (HW1.out.later bel1) (by omega)).mono ?_
  all_goals rintro e W2 ⟨a1', c1', rfl, rd1, bel2⟩
  all_goals replace rd0 := rd0.later bel2
  all_goals have bel := bel1.trans (bel2.mono bel1.size)
  all_goals generalize z0.take len0 = t at *
  all_goals generalize z1.take len1 = sfx at *
  all_goals clear bel1 bel2 HW0 HW1 m0 m1 hby
  all_goals go_wp2_with (at_make; refine wpList_make_own _ rfl _ _ 22 rfl W2.heap.size 5 i0 (.int .u8 0) 1 Trym.underlying22 hi hz0 hz1 _ _ _ (2 * len0 + 2 + len1) rfl rfl (by omega) (by rw [hz2]; omega) (by unfold maxLen; omega) (Nat.le_refl _) ?_)
  all_goals intro W3 hown3 hgrow3
  all_goals have B3 := (Below.refl _ _).grown hgrow3 (Nat.le_refl _) (fun k h => by cases h)
  all_goals have S3 := B3.size
  all_goals clear hgrow3
  all_goals go_wp2_with (at_builtin; refine wpList_append_fits _ rfl (.tmp 43) (.tmp 44) 22 rfl W2.heap.size 5 i0 1 Trym.underlying22 hi hz1 W2.heap.size 0 (2 * len0 + 2 + len1) _ rfl (hown3.alloc _) ⟨W3.heap.size, 0, none⟩ 1 1 [.int .u8 39] rfl rfl (cell_one_new _ _ _) (by intro u hu; simp at hu; subst hu; rfl) (by omega) ?_)
  all_goals intro W4 hown4 hgrow4
  all_goals have B4 := (B3.alloc S3 (.cells #[.int .u8 39] 5)).grown hgrow4 (by simp; omega) (fun k hk => by cases hk; exact Nat.le_refl _)
  all_goals clear hgrow4 hown3 B3 S3
  all_goals go_wp2
  all_goals go_loopw [5, 6] (fun ln i wr => ∃ (k n : Nat) (xs : List Int), k ≤ len0 ∧ i = .int .i64 k ∧ ln = .slice (some ⟨W2.heap.size, 0, none⟩) n (2 * len0 + 2 + len1) ∧ n ≤ 2 * k + 1 ∧ xs = 39 :: Sq.q (t.take k) ∧
      wr.ownsRow W2.heap.size 5 1 (.slice (some ⟨W2.heap.size, 0, none⟩) n (2 * len0 + 2 + len1)) n (bs xs) ∧ Below W2.heap.size W2 wr)
    (fun _ i _ => len0 - (intOf i).toNat)
  all_goals try exact ⟨0, 1, [39], Nat.zero_le _, rfl, rfl, by omega, by simp [Sq.q], hown4, B4⟩
  all_goals
    obtain ⟨k, n, xs, hk, rfl, rfl, hn, hxs, hown, hnx⟩ := hrel
    have HX : Hid (xs = 39 :: Sq.q (t.take k)) := hxs
    have S := hnx.size
    clear hxs hown4 B4
    by_cases hlt : k < len0
    · obtain ⟨b0, o0, ha, g1⟩ := (rd0.later hnx).at hlt
      subst ha
      have hb0 : b0 < W2.heap.size := by
        obtain ⟨b', o', h', g'⟩ := rd0.at hlt
        simp only [Option.some.injEq, Addr.mk.injEq, and_true] at h'
        obtain ⟨rfl, rfl⟩ := h'
        exact World.block_lt_of_cell? W2 _ g'
      by_cases hc39 : t.getD k 0 = 39
      · rw [hc39] at g1
        have HX2 : Hid (xs ++ [39] ++ [39] = 39 :: Sq.q (t.take (k + 1))) := by
          show xs ++ [39] ++ [39] = _
          rw [Sq.q_hit t k (by omega) hc39, HX.out]; simp
        clear hc39
        go_wp2_with (at_builtin; refine wpList_append_fits _ rfl (.tmp 57) (.tmp 58) 22 rfl W2.heap.size 5 i0 1 Trym.underlying22 hi hz1 W2.heap.size n (2 * len0 + 2 + len1) _ rfl (hown.alloc _) ⟨wr.heap.size, 0, none⟩ 1 1 [.int .u8 39] rfl rfl (cell_one_new _ _ _) (one_cell _) (by omega) ?_)
        intro W5 hown5 hgrow5
        have B5 := (hnx.alloc S (.cells #[.int .u8 39] 5)).grown hgrow5 (by simp; omega) (fun k hk => by cases hk; exact Nat.le_refl _)
        have g2 : W5.cell? ⟨b0, o0 + k, none⟩ = some (.int .u8 39) := by
          rw [B5.cell hb0, ← hnx.cell hb0]; exact g1
        have S5 := B5.size
        replace hown5 := own_snoc hown5
        clear hgrow5 hown g1 hnx S
        go_wp2_with (at_builtin; refine wpList_append_fits _ rfl (.tmp 60) (.tmp 65) 22 rfl W2.heap.size 5 i0 1 Trym.underlying22 hi hz1 W2.heap.size (n + 1) (2 * len0 + 2 + len1) _ rfl (hown5.alloc _) ⟨W5.heap.size, 0, none⟩ 1 1 [.int .u8 39] rfl rfl (cell_one_new _ _ _) (one_cell _) (by omega) ?_)
        intro W6 hown6 hgrow6
        have B6 := (B5.alloc S5 (.cells #[.int .u8 39] 5)).grown hgrow6 (by simp; omega) (fun k hk => by cases hk; exact Nat.le_refl _)
        replace hown6 := own_snoc hown6
        clear hgrow6 hown5 g2 B5 S5
        go_wp2
        go_roundw
        case rel => exact ⟨k + 1, n + 1 + 1, xs ++ [39] ++ [39], by omega, by go_num, rfl, by omega, HX2.out, hown6, B6⟩
        case measure => simp [intOf]; omega
      · have HX2 : Hid (xs ++ [t.getD k 0] = 39 :: Sq.q (t.take (k + 1))) := by
          show xs ++ [t.getD k 0] = _
          rw [Sq.q_miss t k (by omega) hc39, HX.out]; simp
        have hcq2 : (t.getD k 0 == 39) = false := beq_eq_false_iff_ne.2 hc39
        clear hc39
        generalize t.getD k 0 = c2 at g1 HX2 hcq2
        go_wp2_with (at_builtin; refine wpList_append_fits _ rfl (.tmp 60) (.tmp 65) 22 rfl W2.heap.size 5 i0 1 Trym.underlying22 hi hz1 W2.heap.size n (2 * len0 + 2 + len1) _ rfl (hown.alloc _) ⟨wr.heap.size, 0, none⟩ 1 1 [.int .u8 c2] rfl rfl (cell_one_new _ _ _) (one_cell _) (by omega) ?_)
        intro W6 hown6 hgrow6
        have B6 := (hnx.alloc S (.cells #[.int .u8 c2] 5)).grown hgrow6 (by simp; omega) (fun k hk => by cases hk; exact Nat.le_refl _)
        replace hown6 := own_snoc hown6
        clear hgrow6 hown g1 hnx S
        go_wp2
        go_roundw
        case rel => exact ⟨k + 1, n + 1, xs ++ [c2], by omega, by go_num, rfl, by omega, HX2.out, hown6, B6⟩
        case measure => simp [intOf]; omega
    · have hkl : k = len0 := by omega
      subst hkl
      go_wp2_with (at_builtin; refine wpList_append_fits _ rfl (.tmp 67) (.tmp 68) 22 rfl W2.heap.size 5 i0 1 Trym.underlying22 hi hz1 W2.heap.size n (2 * k + 2 + len1) _ rfl (hown.alloc _) ⟨wr.heap.size, 0, none⟩ 1 1 [.int .u8 39] rfl rfl (cell_one_new _ _ _) (one_cell _) (by omega) ?_)
      intro W5 hown5 hgrow5
      have B5 := (hnx.alloc S (.cells #[.int .u8 39] 5)).grown hgrow5 (by simp; omega) (fun k hk => by cases hk; exact Nat.le_refl _)
      have S5 := B5.size
      have O5 := own_snoc hown5
      have rd1' := rd1.later B5
      have nl : n = xs.length := (own_cells hown).1
      have hxs : xs = 39 :: Sq.q t := by rw [HX.out, ← e0, List.take_length]
      have HR : Hid (Sq.R ((xs ++ [39] ++ sfx).drop 1) [] 1 = some (t, n + 1)) := quoted_reads hxs nl He2.out
      have ns : (bs sfx).length = len1 * 1 := by rw [bs_length]; omega
      clear hown5 hgrow5 hown hnx S HX hxs nl He2
      go_wp2_with (at_builtin; refine wpList_append_fits_any _ rfl (.tmp 72) (.tmp 73) 22 rfl W2.heap.size 5 i0 1 Trym.underlying22 hi hz1 W2.heap.size (n + 1) (2 * k + 2 + len1) _ rfl O5 a1' len1 c1' (bs sfx) rfl ns rd1'.none rd1'.src (ints_oneCell _ _) (by omega) ?_)
      intro W6 hown6 hgrow6
      have B6 := B5.grown hgrow6 S5 (fun k hk => by cases hk; exact Nat.le_refl _)
      have S6 := B6.size
      rw [← bs_append] at hown6
      have HC : Hid _ := own_cells hown6
      have S7 : W2.heap.size < W6.heap.size := (hown6.lt W2.heap.size rfl).2
      have rd0' := rd0.later B6
      clear hown6 hgrow6 O5 B5 S5 rd1' rd0 rd1
      go_wp2_with fail
      refine (zz_zero W2.heap.size (2 * k + 2 + len1) (n + 1 + len1) (xs ++ [39] ++ sfx) t (n + 1) W6 HC.out.1 (by omega) (by omega) S7 (by omega) HC.out.2 HR.out).mono ?_
      rintro e W7 ⟨v, rfl, hrd, B7⟩
      have rd0'' := rd0'.later B7
      have B8 : Below w.heap.size w W7 := bel.trans ((B6.mono bel.size).trans (B7.mono (Nat.le_trans bel.size S6)))
      clear HC HR rd0'
      have hM : (((n + 1 : Nat) : Int)) = (n : Int) + 1 := by omega
      rw [hM]
      go_wp2_with fail
      refine (same_any _ _ t W7 (by omega) hrd rd0'').mono ?_
      rintro e W8 ⟨rfl, B9⟩
      go_wp2
      go_ret
      exact ⟨rfl, B8.trans (B9.mono B8.size)⟩

set_option maxHeartbeats 1600000 in
set_option maxRecDepth 100000 in
theorem inv_walk (a0 : Option Addr) (len0 cap0 : Nat) (z0 : List Int) (a1 : Option Addr) (len1 cap1 : Nat) (z1 : List Int) (w : World) (w0 : IsRow .u8 w a0 len0 cap0 z0) (w1 : IsRow .u8 w a1 len1 cap1 z1) :
    Calls Trym.prog 4 #[.slice a0 len0 cap0, .slice a1 len1 cap1] w fun e w' => e = .returned (.bool true) ∧ Below w.heap.size w w' := by
  have m0 := w0.max.1
  have m1 := w1.max.1
  by_cases hs : len0 + len1 ≤ 1048576
  · have hby : decide (len0 + len1 ≤ 1048576) = true := by simpa using hs
    by_cases hs0 : len0 ≤ 524288
    · by_cases hs1 : len1 ≤ 524288
      · by_cases hq : 0 < len1 ∧ z1.getD 0 0 = 39
        · obtain ⟨hp, hq⟩ := hq
          obtain ⟨b, o, rfl, hc⟩ := w1.first hp
          rw [hq] at hc
          clear hq w0 w1
          go_enter Trym.func4, Trym.ntmps4
          go_wp2_with fail
          refine (bytes_any _ _ _ _ _ _ _ m0 m1).mono ?_
          rintro e w ⟨rfl, rfl⟩
          rw [hby]
          go_wp2_with fail
          go_ret
          exact ⟨rfl, Below.refl _ _⟩
        · exact inv_main a0 len0 cap0 z0 a1 len1 cap1 z1 w w0 w1 hs0 hs1 hs (fun hp h => hq ⟨hp, h⟩)
      · clear w0 w1
        go_enter Trym.func4, Trym.ntmps4
        go_wp2_with fail
        refine (bytes_any _ _ _ _ _ _ _ m0 m1).mono ?_
        rintro e w ⟨rfl, rfl⟩
        rw [hby]
        go_wp2_with fail
        go_ret
        exact ⟨rfl, Below.refl _ _⟩
    · clear w0 w1
      go_enter Trym.func4, Trym.ntmps4
      go_wp2_with fail
      refine (bytes_any _ _ _ _ _ _ _ m0 m1).mono ?_
      rintro e w ⟨rfl, rfl⟩
      rw [hby]
      go_wp2_with fail
      go_ret
      exact ⟨rfl, Below.refl _ _⟩
  · have hby : decide (len0 + len1 ≤ 1048576) = false := by simpa using hs
    clear w0 w1
    go_enter Trym.func4, Trym.ntmps4
    go_wp2_with fail
    refine (bytes_any _ _ _ _ _ _ _ m0 m1).mono ?_
    rintro e w ⟨rfl, rfl⟩
    rw [hby]
    go_wp2_with fail
    go_ret
    exact ⟨rfl, Below.refl _ _⟩

end Go.Proofs.Qxb6602252aMods
