import Derived.Test.Qxb6602597aModsBytes
namespace Go.Proofs.Qxb6602597aMods
set_option linter.unusedVariables false
set_option linter.unusedSimpArgs false

/-- The table and the count behind the first k stores of the pairs. -/
def st (K V : List ByteArray) : Nat → (ByteArray → Option ByteArray) × Nat
  | 0 => (fun _ => none, 0)
  | k + 1 => (upd (st K V k).1 (K.getD k ByteArray.empty) (V.getD k ByteArray.empty), cnt (st K V k).1 (K.getD k ByteArray.empty) (st K V k).2)

theorem upd_same (F : ByteArray → Option ByteArray) (k v : ByteArray) : upd F k v k = some v := by simp [upd]
theorem upd_other (F : ByteArray → Option ByteArray) {k x : ByteArray} (v : ByteArray) (h : x ≠ k) : upd F k v x = F x := by simp [upd, h]

theorem st_none (K V : List ByteArray) (t : ByteArray) : ∀ n, (∀ j, j < n → K.getD j ByteArray.empty ≠ t) → (st K V n).1 t = none
  | 0, _ => rfl
  | n + 1, h => by
    show upd _ _ _ t = none
    rw [upd_other _ _ (fun e => h n (by omega) e.symm)]
    exact st_none K V t n (fun j hj => h j (by omega))
theorem st_last (K V : List ByteArray) (i : Nat) : ∀ n, i < n → (∀ j, i < j → j < n → K.getD j ByteArray.empty ≠ K.getD i ByteArray.empty) → (st K V n).1 (K.getD i ByteArray.empty) = some (V.getD i ByteArray.empty)
  | 0, h, _ => by omega
  | n + 1, h, hj => by
    show upd _ _ _ _ = _
    rcases Nat.lt_succ_iff_lt_or_eq.1 h with h1 | rfl
    · rw [upd_other _ _ (fun e => hj n h1 (by omega) e.symm)]
      exact st_last K V i n h1 (fun j h2 h3 => hj j h2 (by omega))
    · exact upd_same _ _ _
theorem st_some (K V : List ByteArray) (i : Nat) : ∀ n, i < n → ∃ v, (st K V n).1 (K.getD i ByteArray.empty) = some v
  | 0, h => by omega
  | n + 1, h => by
    show ∃ v, upd _ _ _ _ = some v
    by_cases e : K.getD i ByteArray.empty = K.getD n ByteArray.empty
    · rw [e]; exact ⟨_, upd_same _ _ _⟩
    · rw [upd_other _ _ e]
      rcases Nat.lt_succ_iff_lt_or_eq.1 h with h1 | rfl
      · exact st_some K V i n h1
      · exact absurd rfl e

end Go.Proofs.Qxb6602597aMods
