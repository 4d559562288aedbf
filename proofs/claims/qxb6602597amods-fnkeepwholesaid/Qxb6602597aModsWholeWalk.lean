import Derived.Test.Qxb6602597aModsWhole
namespace Go.Proofs.Qxb6602597aMods
open Go.ChangeShapes Go.WideShapes Go.ChangeAt Go.RowKit
set_option linter.unusedVariables false
set_option linter.unusedSimpArgs false

set_option maxHeartbeats 3200000 in
set_option maxRecDepth 100000 in
theorem whole_walk (a0 : Option Addr) (len0 cap0 : Nat) (K : List ByteArray) (a1 : Option Addr) (len1 cap1 : Nat) (V : List ByteArray) (a2 : Option Addr) (len2 cap2 : Nat) (L : List Int) (w : World)
    (r0 : IsRow Value.string ByteArray.empty w a0 len0 cap0 K) (r1 : IsRow Value.string ByteArray.empty w a1 len1 cap1 V) (r2 : IsRow (Value.int .u8) 0 w a2 len2 cap2 L) :
    Calls Trym.prog 5 #[.slice a0 len0 cap0, .slice a1 len1 cap1, .slice a2 len2 cap2] w fun e w' => e = .returned (.bool true) ∧ Below w.heap.size w w' := by
  by_cases call : len0 ≤ 65536 ∧ len1 ≤ 65536 ∧ len2 ≤ 1048576 ∧ len2 + 16 * len0 + 16 * len1 ≤ 1048576
  · exact whole_main a0 len0 cap0 K a1 len1 cap1 V a2 len2 cap2 L w r0 r1 r2 call.1 call.2.1 call.2.2.1 call.2.2.2
  · have m0 := r0.max
    have m1 := r1.max
    have m2 := r2.max
    have hB := hid (bytes11_any a0 len0 cap0 K a1 len1 cap1 V a2 len2 cap2 w r0 r1 m2)
    unfold maxLen at m0 m1 m2
    clear r0 r1 r2
    have hcs : 65536 < len0 ∨ (len0 ≤ 65536 ∧ 65536 < len1) ∨ (len0 ≤ 65536 ∧ len1 ≤ 65536 ∧ 1048576 < len2) ∨ (len0 ≤ 65536 ∧ len1 ≤ 65536 ∧ len2 ≤ 1048576 ∧ 1048576 < len2 + 16 * len0 + 16 * len1) := by omega
    clear call
    rcases hcs with c0 | ⟨c0, c1⟩ | ⟨c0, c1, c2⟩ | ⟨c0, c1, c2, c3⟩
    all_goals go_enter Trym.func5, Trym.ntmps5
    all_goals go_wp2_with fail
    all_goals refine Calls.mono hB.out ?_
    all_goals rintro e w ⟨⟨b, rfl⟩, rfl⟩
    all_goals clear hB
    all_goals cases b with
      | false =>
        go_wp2
        go_ret
        exact ⟨rfl, Below.refl _ _⟩
      | true =>
        go_wp2
        go_ret
        exact ⟨rfl, Below.refl _ _⟩

theorem isRow_nil {α : Type} {mk : α → Value} {z : α} (w : World) : IsRow mk z w none 0 0 [] := ⟨rfl, .inl ⟨rfl, rfl, rfl⟩⟩
theorem isRow_mk {α : Type} {mk : α → Value} {z : α} {w : World} {x : Addr} {len cap : Nat} {zs : List α} (hl : len ≤ cap) (hm : cap ≤ maxLen) (hz : zs.length = cap)
    (hc : ∀ i, i < zs.length → w.cell? (x.add i) = some (mk (zs.getD i z))) : IsRow mk z w (some x) len cap (zs.take len) :=
  ⟨by simp; omega, .inr ⟨x, rfl, hl, hm, fun i hi => by rw [hc i (by omega)]; simp [List.getD, hi]⟩⟩

end Go.Proofs.Qxb6602597aMods
