import Derived.Test.Qxb6602252aModsZz
namespace Go.Proofs.Qxb6602252aMods
open Go.ChangeShapes Go.WideShapes Go.ChangeAt Go.RowKit
set_option linter.unusedVariables false
set_option linter.unusedSimpArgs false

theorem Rd.len {w : World} {a : Option Addr} {n c : Nat} {l : List Int} (h : Rd w (.slice a n c) l) : n = l.length := by
  rcases h with ⟨h, rfl⟩ | ⟨b, o, cap, h, _⟩
  · injection h
  · injection h with _ h2
theorem Rd.none {w : World} {a : Option Addr} {n c : Nat} {l : List Int} (h : Rd w (.slice a n c) l) (ha : a = .none) : n = 0 ∧ c = 0 := by
  subst ha
  rcases h with ⟨h, rfl⟩ | ⟨b, o, cap, h, _⟩
  · injection h with _ h2 h3; exact ⟨h2, h3⟩
  · injection h with h1; cases h1
theorem Rd.at {w : World} {a : Option Addr} {n c : Nat} {l : List Int} (h : Rd w (.slice a n c) l) {i : Nat} (hi : i < n) : ∃ b o, a = some ⟨b, o, .none⟩ ∧ w.cell? ⟨b, o + i, .none⟩ = some (.int .u8 (l.getD i 0)) := by
  have hn := h.len
  rcases h with ⟨h, rfl⟩ | ⟨b, o, cap, h, _, hc⟩
  · simp at hn; omega
  · injection h with h1
    exact ⟨b, o, h1, hc i (by omega)⟩
theorem Rd.src {w : World} {a : Option Addr} {n c : Nat} {l : List Int} (h : Rd w (.slice a n c) l) : ∀ ad, a = some ad → ∀ j u, (bs l)[j]? = some u → w.cell? (ad.add j) = some u := by
  intro ad had j u hu
  have hn := h.len
  have hj : j < l.length := by have := (List.getElem?_eq_some_iff.1 hu).1; rwa [bs_length] at this
  obtain ⟨b, o, h1, h2⟩ := h.at (i := j) (by omega)
  rw [h1] at had
  obtain rfl := Option.some.inj had
  rw [Addr.add_lit, h2, ← hu]
  simp [bs, List.getD, hj]

theorem clone_use (a : Option Addr) (len cap : Nat) (zs : List Int) (w : World) (hr : IsRow .u8 w a len cap zs) (hlen : len ≤ 1048576) :
    Calls Trym.prog 6 #[.slice a len cap] w fun e w' => ∃ a' c', e = .returned (.slice a' len c') ∧ Rd w' (.slice a' len c') (zs.take len) ∧ Below w.heap.size w w' := by
  refine (clone_any a len cap zs w hr hlen).mono ?_
  rintro e w' ⟨v, rfl, ho, hb⟩
  have hr := Rd.of_own ho
  rcases ho.2 with ⟨rfl, rfl⟩ | ⟨g, c', cur, rfl, _⟩
  · exact ⟨_, _, rfl, hr, hb⟩
  · exact ⟨_, _, rfl, hr, hb⟩

theorem IsRow.later {w w' : World} {a : Option Addr} {len cap : Nat} {zs : List Int} (h : IsRow .u8 w a len cap zs) (hb : Below w.heap.size w w') : IsRow .u8 w' a len cap zs := by
  rcases h with h | ⟨x, h1, h2, h3, h4, h5, h6⟩
  · exact .inl h
  · refine .inr ⟨x, h1, h2, h3, h4, fun i hi => ?_, h6⟩
    have := h5 i hi
    rw [hb.cell (World.block_lt_of_cell? w _ this)]
    exact this

theorem zz_zero (g cap n : Nat) (L o : List Int) (m : Nat) (w : World) (hn : n = L.length) (hlen : n ≤ 4194304) (hcap : n ≤ cap) (hg : g < w.heap.size) (ha : 0 < n)
    (hc : ∀ i, i < L.length → w.cell? ⟨g, i, none⟩ = some (.int .u8 (L.getD i 0))) (hR : Sq.R (L.drop 1) [] 1 = some (o, m)) :
    Calls Trym.prog 7 #[.slice (some ⟨g, 0, none⟩) n cap, .int .i64 0] w fun e w' => ∃ v, e = .returned (.tuple #[v, .bool false, .bool true, .int .i64 m]) ∧ Rd w' v o ∧ Below w.heap.size w w' := by
  subst hn
  refine (zz_any g cap 0 L w hlen hcap hg (by omega) hc).mono ?_
  rintro e w' ⟨hans, hb⟩
  rw [show 0 + 1 = 1 from rfl, hR] at hans
  obtain ⟨v, he, hr⟩ := hans
  exact ⟨v, he, hr, hb⟩

set_option maxHeartbeats 400000 in
theorem bytes_any (a0 : Option Addr) (len0 cap0 : Nat) (a1 : Option Addr) (len1 cap1 : Nat) (w : World) (h0 : len0 ≤ maxLen) (h1 : len1 ≤ maxLen) :
    Calls Trym.prog 10 #[.slice a0 len0 cap0, .slice a1 len1 cap1] w fun e w' => e = .returned (.bool (decide (len0 + len1 ≤ 1048576))) ∧ w' = w := by
  unfold maxLen at h0 h1
  by_cases hs : len0 + len1 ≤ 1048576
  · go_enter Trym.func10, Trym.ntmps10
    go_wp2
    go_ret
    exact ⟨by simp [hs], rfl⟩
  · by_cases hs0 : len0 ≤ 1048576
    · by_cases hs1 : len1 ≤ 1048576
      · go_enter Trym.func10, Trym.ntmps10
        go_wp2
        go_ret
        exact ⟨by simp [hs], rfl⟩
      · go_enter Trym.func10, Trym.ntmps10
        go_wp2
        go_ret
        exact ⟨by simp [hs], rfl⟩
    · go_enter Trym.func10, Trym.ntmps10
      go_wp2
      go_ret
      exact ⟨by simp [hs], rfl⟩

end Go.Proofs.Qxb6602252aMods
