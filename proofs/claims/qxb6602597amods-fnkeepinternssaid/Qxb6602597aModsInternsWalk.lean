import Derived.Test.Qxb6602597aModsInterns
namespace Go.Proofs.Qxb6602597aMods
open Go.ChangeShapes Go.WideShapes Go.ChangeAt Go.RowKit
set_option linter.unusedVariables false
set_option linter.unusedSimpArgs false

set_option maxHeartbeats 3200000 in
set_option maxRecDepth 100000 in
theorem interns_walk (a0 : Option Addr) (len0 cap0 : Nat) (K : List ByteArray) (a1 : Option Addr) (len1 cap1 : Nat) (E : List (Option Addr × Nat × Nat)) (T : List (List Int)) (w : World)
    (r0 : IsRow Value.string ByteArray.empty w a0 len0 cap0 K) (r1 : IsTexts w a1 len1 cap1 E T) :
    Calls Trym.prog 6 #[.slice a0 len0 cap0, .slice a1 len1 cap1] w fun e w' => e = .returned (.bool true) ∧ Below w.heap.size w w' := by
  by_cases call : len0 ≤ 65536 ∧ len1 ≤ 65536 ∧ 16 * len0 + 24 * len1 ≤ 1048576
  · exact interns_main a0 len0 cap0 K a1 len1 cap1 E T w r0 r1 call.1 call.2.1 call.2.2
  · have m0 := r0.max
    have m1 := r1.1.max
    have hB := hid (bytes15_any a0 len0 cap0 K a1 len1 cap1 E T w r0 r1)
    unfold maxLen at m0 m1
    clear r0 r1
    have hcs : 65536 < len0 ∨ (len0 ≤ 65536 ∧ 65536 < len1) ∨ (len0 ≤ 65536 ∧ len1 ≤ 65536 ∧ 1048576 < 16 * len0 + 24 * len1) := by omega
    clear call
    rcases hcs with c0 | ⟨c0, c1⟩ | ⟨c0, c1, c3⟩
    all_goals go_enter Trym.func6, Trym.ntmps6
    all_goals go_wp2_with fail
    all_goals refine Calls.mono hB.out ?_
    all_goals rintro e w ⟨⟨b, rfl⟩, rfl⟩
    all_goals clear hB
    all_goals cases b with
      | false =>
        go_wp2
        go_ret
        exact ⟨rfl, Below.refl _ _⟩
      | true =>
        go_wp2
        go_ret
        exact ⟨rfl, Below.refl _ _⟩

theorem row_of_nil {α : Type} {mk : α → Value} {z : α} (w : World) : IsRow mk z w none 0 0 [] := ⟨rfl, .inl ⟨rfl, rfl, rfl⟩⟩
theorem row_of {α : Type} {mk : α → Value} {z : α} {w : World} {x : Addr} {len cap : Nat} {zs : List α} (hl : len ≤ cap) (hm : cap ≤ maxLen) (hz : zs.length = cap)
    (hc : ∀ i, i < zs.length → w.cell? (x.add i) = some (mk (zs.getD i z))) : IsRow mk z w (some x) len cap (zs.take len) :=
  ⟨by simp; omega, .inr ⟨x, rfl, hl, hm, fun i hi => by rw [hc i (by omega)]; simp [List.getD, hi]⟩⟩
theorem texts_nil (w : World) : IsTexts w none 0 0 [] [] := ⟨row_of_nil _, fun i hi => absurd hi (by omega)⟩
theorem getD_range {β : Type} (f : Nat → β) (n i : Nat) (z : β) (hi : i < n) : ((List.range n).map f).getD i z = f i := by simp [List.getD, hi]

theorem texts_of {w : World} {x : Addr} {len cap : Nat} (A : Nat → Option Addr) (L C : Nat → Nat) (Z : Nat → List Int) (hl : len ≤ cap) (hm : cap ≤ maxLen)
    (h : ∀ r, r < cap → w.cell? (x.add r) = some (.slice (A r) (L r) (C r)) ∧ L r ≤ C r ∧ C r ≤ maxLen ∧ (Z r).length = C r ∧ (A r = none → C r = 0) ∧ ∀ a', A r = some a' → ∀ c, c < C r → w.cell? (a'.add c) = some (.int .u8 ((Z r).getD c 0))) :
    IsTexts w (some x) len cap ((List.range len).map fun r => (A r, L r, C r)) ((List.range len).map fun r => (Z r).take (L r)) := by
  refine ⟨⟨by simp, .inr ⟨x, rfl, hl, hm, fun i hi => ?_⟩⟩, fun i hi => ?_⟩
  · rw [getD_range _ _ _ _ hi]
    exact (h i (by omega)).1
  · rw [getD_range _ _ _ _ hi, getD_range _ _ _ _ hi]
    obtain ⟨_, h2, h3, h4, h5, h6⟩ := h i (by omega)
    show IsRow (Value.int .u8) 0 w (A i) (L i) (C i) ((Z i).take (L i))
    cases ha : A i with
    | none =>
      have hC := h5 ha
      have hL : L i = 0 := by omega
      rw [hC, hL]
      simpa using row_of_nil w
    | some a' => exact row_of h2 h3 h4 (fun c hc => h6 a' ha c (by omega))

end Go.Proofs.Qxb6602597aMods
