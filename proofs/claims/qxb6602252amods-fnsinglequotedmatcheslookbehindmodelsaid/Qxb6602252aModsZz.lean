import Derived.Test.Qxb6602252aModsReader
namespace Go.Proofs.Qxb6602252aMods
open Go.ChangeShapes Go.WideShapes Go.ChangeAt Go.RowKit
set_option linter.unusedVariables false
set_option linter.unusedSimpArgs false

/-- What ZZSingleQuoted answers. -/
def AnsZ (a0 : Nat) (w' : World) (e : Ending) : Option (List Int × Nat) → Prop
  | none => e = .returned (.tuple #[.slice none 0 0, .bool false, .bool false, .int .i64 a0])
  | some r => ∃ v, e = .returned (.tuple #[v, .bool false, .bool true, .int .i64 r.2]) ∧ Rd w' v r.1

/-- The zero value of the reader's struct, its cells under one name. -/
def flow0 : Array Value := #[.slice none 0 0, .int .i64 0, .slice none 0 0, .int .i64 0, .slice none 0 0, .slice none 0 0] ++ Array.replicate 64 (.int .u8 0)
theorem flow0_zero (W : World) : Sem.run Trym.prog (zeroValue 34) W = .ok (.agg flow0) W := by kernel_rfl
theorem flow0_ex : ∃ z : Array Value, z.size = 70 ∧ z ≠ #[] ∧ ∀ W, Sem.run Trym.prog (zeroValue 34) W = .ok (.agg z) W :=
  ⟨flow0, by simp [flow0], fun h => by have := congrArg Array.size h; simp [flow0] at this, flow0_zero⟩

theorem cell_new (w : World) (cs : Array Value) (t : TypeId) (i : Nat) : (w.alloc (.cells cs t)).cell? ⟨w.heap.size, i, none⟩ = cs[i]? :=
  cell_of_row _ w.heap.size i cs t (0, 0) (heap_alloc_new w _)
theorem frozen_new (w : World) (cs : Array Value) (t : TypeId) (i : Nat) : (w.alloc (.cells cs t)).frozen? ⟨w.heap.size, i, none⟩ = false := by
  have h := heap_alloc_new w (.cells cs t)
  unfold World.frozen?
  rw [h]
  simp
theorem results_tmp4 {fn : Func} {t u v x : Tmp} (h : fn.results = #[.tmp t, .tmp u, .tmp v, .tmp x]) (tmps : Array Value) (P : Program) (w : World) :
    (results fn tmps).run P w = .ok (.tuple #[tmps.getD t undef, tmps.getD u undef, tmps.getD v undef, tmps.getD x undef]) w := by
  simp [results, h]

set_option maxHeartbeats 1600000 in
set_option maxRecDepth 100000 in
theorem zz_any (g cap a0 : Nat) (L : List Int) (w : World) (hlen : L.length ≤ 4194304) (hcap : L.length ≤ cap) (hg : g < w.heap.size) (ha : a0 + 1 ≤ L.length)
    (hc : ∀ i, i < L.length → w.cell? ⟨g, i, none⟩ = some (.int .u8 (L.getD i 0))) :
    Calls Trym.prog 7 #[.slice (some ⟨g, 0, none⟩) L.length cap, .int .i64 a0] w fun e w' => AnsZ a0 w' e (Sq.R (L.drop (a0 + 1)) [] (a0 + 1)) ∧ Below w.heap.size w w' := by
  obtain ⟨z, hs, hne, hz⟩ := flow0_ex
  have H : ∀ cs : Array Value, cs[0]? = some (.slice (some ⟨g, 0, none⟩) L.length cap) → cs[1]? = some (.int .i64 a0) →
      Calls Trym.prog 11 #[.pointer (some ⟨w.heap.size, 0, none⟩)] (w.alloc (.cells cs 34)) fun e w' => Ans w.heap.size a0 w' e (Sq.R (L.drop (a0 + 1)) [] (a0 + 1)) ∧ Below w.heap.size (w.alloc (.cells cs 34)) w' := by
    intro cs h0 h1
    exact reader_any w.heap.size g cap a0 L (w.alloc (.cells cs 34)) hlen hcap hg (by simp) ha ((cell_new w cs 34 0).trans h0) ((cell_new w cs 34 1).trans h1) (frozen_new w cs 34 1)
      (fun i hi => (World.cell?_alloc_past _ _ _ hg).trans (hc i hi))
  have HH : Hid _ := H
  clear H hc
  generalize Sq.R (L.drop (a0 + 1)) [] (a0 + 1) = r at HH
  go_enter Trym.func7, Trym.ntmps7
  go_wp2_with fail
  refine (HH.out _ ?_ ?_).mono ?_
  · simp [hs]
  · simp [hs]
  rintro e w1 ⟨hans, hbel⟩
  have hB : Below w.heap.size w w1 := ((Below.refl _ _).alloc (Nat.le_refl _) _).trans hbel
  clear hbel HH
  cases r with
  | none =>
    obtain ⟨rfl, hA⟩ := hans
    go_wp2
    go_quiet (fail)
    go_wp2
    refine bodyPost_ret (results_tmp4 rfl _ _ _) rfl ?_
    exact ⟨rfl, below_drewN hB _⟩
  | some r =>
    obtain ⟨v, rfl, hrd, hA⟩ := hans
    go_wp2
    go_quiet (fail)
    go_wp2
    refine bodyPost_ret (results_tmp4 rfl _ _ _) rfl ?_
    exact ⟨⟨v, rfl, hrd.later (below_drewN (Below.refl _ _) _)⟩, below_drewN hB _⟩

end Go.Proofs.Qxb6602252aMods
