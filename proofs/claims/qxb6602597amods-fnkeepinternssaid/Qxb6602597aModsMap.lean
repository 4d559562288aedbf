import Derived.Test.Qxb6602597aModsKit
namespace Go.Proofs.Qxb6602597aMods
open Go.ChangeShapes Go.WideShapes Go.ChangeAt Go.RowKit
set_option linter.unusedVariables false
set_option linter.unusedSimpArgs false

/-- A string as a key's datum. -/
def kl (s : ByteArray) : Lit := .string s.data.toList
theorem ba_ext {a b : ByteArray} (h : a.data.toList = b.data.toList) : a = b := ByteArray.ext (Array.ext' h)
theorem kl_inj {a b : ByteArray} (h : kl a = kl b) : a = b := by
  unfold kl at h
  injection h with h
  exact ba_ext h

/-- A table of strings, one entry set. -/
def upd (F : ByteArray → Option ByteArray) (k v : ByteArray) : ByteArray → Option ByteArray := fun x => if x = k then some v else F x
/-- How many entries there are behind a store. -/
def cnt (F : ByteArray → Option ByteArray) (k : ByteArray) (s : Nat) : Nat := if (F k).isSome then s else s + 1

/-- What the datum D says of the key x, where the table says o. -/
def Says (D : DataW Unit) (x : ByteArray) : Option ByteArray → Prop
  | none => Maps.has D (kl x) = false
  | some v => Maps.has D (kl x) = true ∧ v.size ≤ maxLen ∧ ∀ zd, D.atKey (kl x) zd = .lit (.string v.data.toList)

/-- Block b is a map of strings to strings with the table F, of s entries, of at most n. -/
def Mp (w : World) (b n : Nat) (F : ByteArray → Option ByteArray) (s : Nat) : Prop :=
  ∃ D, w.ownsMap Trym.prog 9 (plainElem (H := Unit) Trym.prog 9) b n D ∧ Maps.size D = s ∧ ∀ x : ByteArray, x.size ≤ maxLen → Says D x (F x)

theorem K9 : Maps.Keyed Trym.prog 9 := Maps.string_keyed Trym.underlying9
theorem zero9 (w : World) : (zeroValue 9).run Trym.prog w = .ok (.string ByteArray.empty) w := by kernel_rfl
theorem key9 {s : ByteArray} (hs : s.size ≤ maxLen) : keyOf Trym.prog 9 (.string s) = some (kl s) := WideMaps.keyOf_string_mk Trym.underlying9 hs
theorem elem9 {s : ByteArray} (hs : s.size ≤ maxLen) : plainElem (H := Unit) Trym.prog 9 (.string s) = some (.lit (.string s.data.toList), []) := plainElem_string Trym.underlying9 hs

theorem run_mk30 (x : Int) (w : World) : (Instr.makeMap 30 (some (.int .i64 x))).run Trym.prog w = .ok (.map (some w.heap.size)) (w.alloc (.map #[] 0)) := by
  simp [Instr.makeMap, run_underlying Trym.underlying30, asInt, asIntOf]

theorem Mp_made (w : World) : Mp (w.alloc (.map #[] 0)) w.heap.size 0 (fun _ => none) 0 :=
  ⟨_, World.ownsMap_made w Trym.prog 9 _, rfl, fun x _ => by simp [Says, Maps.has]⟩

section
variable {w : World} {b n s : Nat} {F : ByteArray → Option ByteArray}

theorem Mp.lt (h : Mp w b n F s) : b < w.heap.size := by obtain ⟨D, ho, _⟩ := h; exact ho.lt
theorem Mp.le (h : Mp w b n F s) : s ≤ n := by obtain ⟨D, ho, hs, _⟩ := h; rw [← hs]; exact ho.size_le
theorem Mp.kept {w' : World} {row : Option Nat} (h : Mp w b n F s) (hg : w.grownBy w' row) (hne : some b ≠ row) : Mp w' b n F s := by
  obtain ⟨D, ho, hs, hF⟩ := h; exact ⟨D, ho.kept hg hne, hs, hF⟩
theorem Mp.drewN (h : Mp w b n F s) (q : Nat) : Mp (w.drewN q) b n F s := h
theorem Mp.drew (h : Mp w b n F s) : Mp w.drew b n F s := h

theorem Mp.some_at (h : Mp w b n F s) {k v : ByteArray} (hk : k.size ≤ maxLen) (hF : F k = some v) :
    (Instr.lookup 30 (.map (some b)) (.string k) true).run Trym.prog w = .ok (.tuple #[.string v, .bool true]) w ∧
    (Instr.lookup 30 (.map (some b)) (.string k) false).run Trym.prog w = .ok (.string v) w := by
  obtain ⟨D, ho, hs, hD⟩ := h
  have hsay := hD k hk
  rw [hF] at hsay
  obtain ⟨h1, h2, h3⟩ := hsay
  constructor
  · obtain ⟨u, ps, hr, hu⟩ := ho.look_ok K9 Trym.underlying30 (zero9 w) (elem9 (s := ByteArray.empty) (by decide)) (key9 hk)
    obtain ⟨u', rfl, he, _⟩ := plainElem_string_inv Trym.underlying9 hu
    rw [h3] at he
    simp only [Prod.mk.injEq, DataW.lit.injEq, Lit.string.injEq] at he
    rw [hr, h1, ba_ext he.1]
  · obtain ⟨u, ps, hr, hu⟩ := ho.lookup K9 Trym.underlying30 (zero9 w) (elem9 (s := ByteArray.empty) (by decide)) (key9 hk)
    obtain ⟨u', rfl, he, _⟩ := plainElem_string_inv Trym.underlying9 hu
    rw [h3] at he
    simp only [Prod.mk.injEq, DataW.lit.injEq, Lit.string.injEq] at he
    rw [hr, ba_ext he.1]

theorem Mp.none_at (h : Mp w b n F s) {k : ByteArray} (hk : k.size ≤ maxLen) (hF : F k = none) :
    (Instr.lookup 30 (.map (some b)) (.string k) true).run Trym.prog w = .ok (.tuple #[.string ByteArray.empty, .bool false]) w := by
  obtain ⟨D, ho, hs, hD⟩ := h
  have hsay := hD k hk
  rw [hF] at hsay
  obtain ⟨u, ps, hr, hu⟩ := ho.look_ok K9 Trym.underlying30 (zero9 w) (elem9 (s := ByteArray.empty) (by decide)) (key9 hk)
  obtain ⟨u', rfl, he, _⟩ := plainElem_string_inv Trym.underlying9 hu
  rw [Maps.atKey_of_not_has hsay] at he
  simp only [Prod.mk.injEq, DataW.lit.injEq, Lit.string.injEq] at he
  rw [hr, hsay, ba_ext he.1]

theorem Mp.len (h : Mp w b n F s) (ty : TypeId) : (Builtin.len_ #[30] ty #[.map (some b)]).run Trym.prog w = .ok (.int .i64 s) w := by
  obtain ⟨D, ho, hs, hD⟩ := h
  rw [ho.len Trym.underlying30 ty, hs]

theorem Mp.update (h : Mp w b n F s) {k v : ByteArray} (hn : n < maxLen) (hk : k.size ≤ maxLen) (hv : v.size ≤ maxLen) :
    ∃ w', (Instr.mapUpdate 30 (.map (some b)) (.string k) (.string v)).run Trym.prog w = .ok () w' ∧ Mp w' b (n + 1) (upd F k v) (cnt F k s) ∧ w.grownBy w' (some b) := by
  obtain ⟨D, ho, hs, hD⟩ := h
  obtain ⟨w', hr, ho', hg⟩ := ho.update K9 Trym.underlying30 hn (key9 hk) (elem9 hv)
  have hm := ho.isMap
  have ht := ho.tidy K9
  have hkl : WideAt.IsKeyLit (kl k) := K9.key (key9 hk)
  refine ⟨w', hr, ⟨_, ho', ?_, fun x hx => ?_⟩, hg⟩
  · have hsay := hD k hk
    rw [Maps.size_put ht]
    unfold cnt
    cases hF : F k with
    | none => rw [hF] at hsay; rw [hsay]; simp [hs]
    | some u => rw [hF] at hsay; rw [hsay.1]; simp [hs]
  · unfold upd
    by_cases hxk : x = k
    · subst hxk
      rw [if_pos rfl]
      exact ⟨Maps.has_put_same hm hkl _, hv, fun zd => Maps.atKey_put_same hm hkl _ zd⟩
    · rw [if_neg hxk]
      have hne : kl x ≠ kl k := fun h => hxk (kl_inj h)
      have hsay := hD x hx
      cases hF : F x with
      | none => rw [hF] at hsay; exact (Maps.has_put_other hne _).trans hsay
      | some u =>
        rw [hF] at hsay
        exact ⟨(Maps.has_put_other hne _).trans hsay.1, hsay.2.1, fun zd => (Maps.atKey_put_other hne _ zd).trans (hsay.2.2 zd)⟩
end

end Go.Proofs.Qxb6602597aMods
