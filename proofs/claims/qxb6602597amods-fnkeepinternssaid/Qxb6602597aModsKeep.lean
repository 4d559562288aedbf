import Derived.Test.Qxb6602597aModsMap
namespace Go.Proofs.Qxb6602597aMods
open Go.ChangeShapes Go.WideShapes Go.ChangeAt Go.RowKit
set_option linter.unusedVariables false
set_option linter.unusedSimpArgs false

/-- The string of some bytes. -/
def tx (l : List Int) : ByteArray := strOfNums l
theorem tx_size (l : List Int) : (tx l).size = l.length := strOfNums_size l

theorem Rd.text {w : World} {v : Value} {l : List Int} (h : Rd (Value.int .u8) 0 w v l) : (convert 26 9 v).run Trym.prog w = .ok (.string (tx l)) w := by
  rcases h with ⟨rfl, rfl⟩ | ⟨b, o, cap, rfl, _, hc⟩
  · exact run_convert_bytes_nil w 26 5 Trym.underlying26 Trym.underlying5 0 0 9 Trym.underlying9
  · exact run_convert_bytes_arg w 26 5 Trym.underlying26 Trym.underlying5 b o l.length cap l rfl hc 9 Trym.underlying9

theorem grown_drewN (w : World) (q : Nat) (row : Option Nat) : w.grownBy (w.drewN q) row := ⟨rfl, rfl, rfl, Nat.le_refl _, fun _ _ _ => rfl⟩
theorem grown_of_drewN {w w' : World} {q : Nat} {row : Option Nat} (h : (w.drewN q).grownBy w' row) : w.grownBy w' row := ⟨h.os, h.tape, h.output, h.size, h.block⟩

set_option maxHeartbeats 800000 in
theorem keep_some (p q m n s : Nat) (F : ByteArray → Option ByteArray) (a : Option Addr) (ln cp : Nat) (l : List Int) (u : ByteArray) (w : World)
    (hp : w.cell? ⟨p, 3, none⟩ = some (.pointer (some ⟨q, 0, none⟩))) (hq : w.cell? ⟨q, 0, none⟩ = some (.map (some m)))
    (hr : Rd (Value.int .u8) 0 w (.slice a ln cp) l) (hl : l.length ≤ 1048576) (hm : Mp w m n F s) (hF : F (tx l) = some u) :
    Calls Trym.prog 18 #[.pointer (some ⟨p, 0, none⟩), .slice a ln cp] w fun e w' => e = .returned (.string u) ∧ Mp w' m n F s ∧ w.grownBy w' (some m) := by
  have hcv : ∀ Q, (convert 26 9 (.slice a ln cp)).run Trym.prog (w.drewN Q) = .ok (.string (tx l)) (w.drewN Q) := fun Q => Rd.text (hr.later (below_drewN (Below.refl _ _) Q))
  have hlk : ∀ Q, (Instr.lookup 30 (.map (some m)) (.string (tx l)) true).run Trym.prog (w.drewN Q) = .ok (.tuple #[.string u, .bool true]) (w.drewN Q) := fun Q => ((hm.drewN Q).some_at (by rw [tx_size]; unfold maxLen; omega) hF).1
  have HF := hid hF
  clear hF
  go_enter Trym.func18, Trym.ntmps18
  go_wp2
  go_quiet (fail)
  go_wp2
  go_ret
  exact ⟨rfl, hm.drewN _, grown_drewN _ _ _⟩

set_option maxHeartbeats 800000 in
theorem keep_none (p q m n s : Nat) (F : ByteArray → Option ByteArray) (a : Option Addr) (ln cp : Nat) (l : List Int) (w : World)
    (hp : w.cell? ⟨p, 3, none⟩ = some (.pointer (some ⟨q, 0, none⟩))) (hq : w.cell? ⟨q, 0, none⟩ = some (.map (some m)))
    (hr : Rd (Value.int .u8) 0 w (.slice a ln cp) l) (hl : l.length ≤ 1048576) (hm : Mp w m n F s) (hn : n ≤ 4194304) (hF : F (tx l) = none) :
    Calls Trym.prog 18 #[.pointer (some ⟨p, 0, none⟩), .slice a ln cp] w fun e w' => e = .returned (.string (tx l)) ∧ Mp w' m (n + 1) (upd F (tx l) (tx l)) (s + 1) ∧ w.grownBy w' (some m) := by
  have hsz : (tx l).size ≤ maxLen := by rw [tx_size]; unfold maxLen; omega
  have hcv : ∀ Q, (convert 26 9 (.slice a ln cp)).run Trym.prog (w.drewN Q) = .ok (.string (tx l)) (w.drewN Q) := fun Q => Rd.text (hr.later (below_drewN (Below.refl _ _) Q))
  have hlk : ∀ Q, (Instr.lookup 30 (.map (some m)) (.string (tx l)) true).run Trym.prog (w.drewN Q) = .ok (.tuple #[.string ByteArray.empty, .bool false]) (w.drewN Q) := fun Q => (hm.drewN Q).none_at hsz hF
  have HF := hid hF
  clear hF
  go_enter Trym.func18, Trym.ntmps18
  go_wp2
  go_quiet (fail)
  obtain ⟨w1, hrun, hm1, hg1⟩ := (hm.drewN nq).update (by unfold maxLen; omega) hsz hsz
  have HM := hid hm1
  have HG := hid hg1
  clear hm1 hg1
  go_wp2
  go_ret
  refine ⟨rfl, ?_, grown_of_drewN HG.out⟩
  have := HM.out
  unfold cnt at this
  rw [HF.out] at this
  exact this

/-- ZZKeep's world: the two structs are laid ahead of the call. -/
def sc (w : World) (m : Nat) : World := (w.alloc (.cells #[.map (some m), .slice none 0 0] 40)).alloc (.cells #[.slice none 0 0, .int .i64 0, .bool false, .pointer (some ⟨w.heap.size, 0, none⟩)] 42)
theorem sc_p (w : World) (m : Nat) : (sc w m).cell? ⟨w.heap.size + 1, 3, none⟩ = some (.pointer (some ⟨w.heap.size, 0, none⟩)) := by
  have h := heap_alloc_new (w.alloc (.cells #[.map (some m), .slice none 0 0] 40)) (.cells #[.slice none 0 0, .int .i64 0, .bool false, .pointer (some ⟨w.heap.size, 0, none⟩)] 42)
  rw [World.size_alloc] at h
  unfold sc
  rw [cell_of_row _ _ 3 _ _ _ h]
  rfl
theorem sc_q (w : World) (m : Nat) : (sc w m).cell? ⟨w.heap.size, 0, none⟩ = some (.map (some m)) := by
  unfold sc
  rw [World.cell?_alloc_past _ _ _ (by simp)]
  have h := heap_alloc_new w (.cells #[.map (some m), .slice none 0 0] 40)
  rw [cell_of_row _ _ 0 _ _ _ h]
  rfl
theorem sc_grown (w : World) (m : Nat) (row : Option Nat) : w.grownBy (sc w m) row := by
  unfold sc
  exact ⟨rfl, rfl, rfl, by simp; omega, fun k hk hne => by rw [Below.heap_alloc _ _ _ (by simp; omega), Below.heap_alloc _ _ _ hk]⟩
theorem grown_trans {w w1 w2 : World} {row : Option Nat} (h : w.grownBy w1 row) (h' : w1.grownBy w2 row) : w.grownBy w2 row :=
  ⟨h'.os.trans h.os, h'.tape.trans h.tape, h'.output.trans h.output, Nat.le_trans h.size h'.size, fun k hk hne => (h'.block k (Nat.lt_of_lt_of_le hk h.size) hne).trans (h.block k hk hne)⟩

theorem sc_rd {w : World} {m : Nat} {a : Option Addr} {ln cp : Nat} {l : List Int} (hr : Rd (Value.int .u8) 0 w (.slice a ln cp) l) : Rd (Value.int .u8) 0 (sc w m) (.slice a ln cp) l :=
  hr.later ⟨rfl, rfl, rfl, (sc_grown w m none).size, fun k hk => (sc_grown w m none).block k hk (by simp)⟩

set_option maxHeartbeats 800000 in
theorem zzKeep_some (m n s : Nat) (F : ByteArray → Option ByteArray) (a : Option Addr) (ln cp : Nat) (l : List Int) (u : ByteArray) (w : World)
    (hr : Rd (Value.int .u8) 0 w (.slice a ln cp) l) (hl : l.length ≤ 1048576) (hm : Mp w m n F s) (hF : F (tx l) = some u) :
    Calls Trym.prog 14 #[.map (some m), .slice a ln cp] w fun e w' => e = .returned (.string u) ∧ Mp w' m n F s ∧ w.grownBy w' (some m) := by
  have H := hid (keep_some (w.heap.size + 1) w.heap.size m n s F a ln cp l u (sc w m) (sc_p w m) (sc_q w m) (sc_rd hr) hl (hm.kept (sc_grown w m none) (by simp)) hF)
  clear hF
  go_enter Trym.func14, Trym.ntmps14
  go_wp2_with fail
  refine Calls.mono H.out ?_
  rintro e w1 ⟨rfl, hm1, hg1⟩
  go_wp2
  go_ret
  exact ⟨rfl, hm1, grown_trans (sc_grown w m _) hg1⟩

set_option maxHeartbeats 800000 in
theorem zzKeep_none (m n s : Nat) (F : ByteArray → Option ByteArray) (a : Option Addr) (ln cp : Nat) (l : List Int) (w : World)
    (hr : Rd (Value.int .u8) 0 w (.slice a ln cp) l) (hl : l.length ≤ 1048576) (hm : Mp w m n F s) (hn : n ≤ 4194304) (hF : F (tx l) = none) :
    Calls Trym.prog 14 #[.map (some m), .slice a ln cp] w fun e w' => e = .returned (.string (tx l)) ∧ Mp w' m (n + 1) (upd F (tx l) (tx l)) (s + 1) ∧ w.grownBy w' (some m) := by
  have H := hid (keep_none (w.heap.size + 1) w.heap.size m n s F a ln cp l (sc w m) (sc_p w m) (sc_q w m) (sc_rd hr) hl (hm.kept (sc_grown w m none) (by simp)) hn hF)
  clear hF
  go_enter Trym.func14, Trym.ntmps14
  go_wp2_with fail
  refine Calls.mono H.out ?_
  rintro e w1 ⟨rfl, hm1, hg1⟩
  go_wp2
  go_ret
  exact ⟨rfl, hm1, grown_trans (sc_grown w m _) hg1⟩

end Go.Proofs.Qxb6602597aMods
