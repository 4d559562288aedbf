import Derived.Test.Qxb6602597aModsBytes
namespace Go.Proofs.Qxb6602597aMods
open Go.ChangeShapes Go.WideShapes Go.ChangeAt Go.RowKit
set_option linter.unusedVariables false
set_option linter.unusedSimpArgs false

theorem Trym.info26 : (Trym.prog.info? 26).map (fun i => (i.zero, i.size, i.bytes)) = some (some (.slice none 0 0), 1, 24) := by kernel_rfl

/-- A slice's head as plain numbers. -/
def mkS (e : Option Addr × Nat × Nat) : Value := .slice e.1 e.2.1 e.2.2
def zE : Option Addr × Nat × Nat := (none, 0, 0)

theorem own_below {w w' : World} {base e size n : Nat} {v : Value} {xs : List Value} (h : w.ownsRow base e size v n xs) (hb : Below w.heap.size w w') : w'.ownsRow base e size v n xs := by
  refine ⟨h.1, ?_⟩
  rcases h.2 with hn | ⟨g, cap, cur, rfl, hbg, hgg, rest⟩
  · exact .inl hn
  · exact .inr ⟨g, cap, cur, rfl, hbg, (hb.block g (Array.getElem?_eq_some_iff.1 hgg).1).trans hgg, rest⟩
theorem own_base {w : World} {base base' e size n : Nat} {v : Value} {xs : List Value} (h : w.ownsRow base e size v n xs) (hb : base' ≤ base) : w.ownsRow base' e size v n xs := by
  refine ⟨h.1, ?_⟩
  rcases h.2 with hn | ⟨g, cap, cur, rfl, hbg, rest⟩
  · exact .inl hn
  · exact .inr ⟨g, cap, cur, rfl, Nat.le_trans hb hbg, rest⟩

theorem row_step (E : List (Option Addr × Nat × Nat)) (n : Nat) (x : Option Addr × Nat × Nat) (h : E.length < n) :
    (E.map mkS ++ List.replicate (n - E.length) (Value.slice none 0 0)).set E.length (mkS x) = (E ++ [x]).map mkS ++ List.replicate (n - (E ++ [x]).length) (Value.slice none 0 0) := by
  have e2 : n - E.length = (n - (E.length + 1)) + 1 := by omega
  rw [e2, List.replicate_succ, List.set_append_right _ _ (by simp)]
  simp
theorem row_get (E : List (Option Addr × Nat × Nat)) (n : Nat) (h : E.length < n) :
    (E.map mkS ++ List.replicate (n - E.length) (Value.slice none 0 0))[E.length]? = some (.slice none 0 0) := by
  rw [List.getElem?_append_right (by simp)]
  simp only [List.length_map, Nat.sub_self, List.getElem?_replicate]
  rw [if_pos (by omega)]

/-- Each text lies in memory of its own. -/
def Inner (w : World) (B : Nat) (E : List (Option Addr × Nat × Nat)) (T : List (List Int)) : Prop :=
  ∀ j, j < E.length → (E.getD j zE).2.1 = (T.getD j []).length ∧ w.ownsRow B 5 1 (mkS (E.getD j zE)) (T.getD j []).length ((T.getD j []).map (Value.int .u8))

theorem Inner.nil (w : World) (B : Nat) (T : List (List Int)) : Inner w B [] T := fun j hj => absurd hj (by simp)
theorem Inner.below {w w' : World} {B : Nat} {E : List (Option Addr × Nat × Nat)} {T : List (List Int)} (h : Inner w B E T) (hb : Below w.heap.size w w') : Inner w' B E T :=
  fun j hj => ⟨(h j hj).1, own_below (h j hj).2 hb⟩
theorem Inner.setCell {w : World} {B : Nat} {E : List (Option Addr × Nat × Nat)} {T : List (List Int)} (h : Inner w B E T) {a : Addr} (ha : a.block < B) (u : Value) : Inner (w.setCell a u) B E T :=
  fun j hj => ⟨(h j hj).1, ownsRow_setCell_below (h j hj).2 ha u⟩
theorem Inner.snoc {w : World} {B : Nat} {E : List (Option Addr × Nat × Nat)} {T : List (List Int)} (h : Inner w B E T) (x : Option Addr × Nat × Nat) (hl : x.2.1 = (T.getD E.length []).length)
    (ho : w.ownsRow B 5 1 (mkS x) (T.getD E.length []).length ((T.getD E.length []).map (Value.int .u8))) : Inner w B (E ++ [x]) T := by
  intro j hj
  rw [List.length_append, List.length_singleton] at hj
  rcases Nat.lt_succ_iff_lt_or_eq.1 hj with h1 | rfl
  · have e : (E ++ [x]).getD j zE = E.getD j zE := by simp [List.getD, List.getElem?_append_left h1]
    rw [e]
    exact h j h1
  · have e : (E ++ [x]).getD E.length zE = x := by simp [List.getD]
    rw [e]
    exact ⟨hl, ho⟩

set_option maxHeartbeats 400000 in
theorem copyT_nil (w : World) :
    Calls Trym.prog 16 #[.slice none 0 0] w fun e w' => e = .returned (.slice none 0 0) ∧ w' = w := by
  have hnil := fun (W : World) (a : Option Addr) (n c n' c' : Nat) => Lib.run_eql_slice_nil (P := Trym.prog) W 33 _ a n c n' c' Trym.underlying33
  go_enter Trym.func16, Trym.ntmps16
  go_wp2
  go_ret
  exact ⟨rfl, rfl⟩

set_option maxHeartbeats 800000 in
theorem copyT_empty (x : Addr) (cap : Nat) (w : World) :
    Calls Trym.prog 16 #[.slice (some x) 0 cap] w fun e w' => e = .returned (.slice (some ⟨w.heap.size, 0, none⟩) 0 0) ∧
      w'.ownsRow w.heap.size 26 1 (.slice (some ⟨w.heap.size, 0, none⟩) 0 0) 0 [] ∧ Below w.heap.size w w' := by
  have hnil := fun (W : World) (a : Option Addr) (n c n' c' : Nat) => Lib.run_eql_slice_nil (P := Trym.prog) W 33 _ a n c n' c' Trym.underlying33
  obtain ⟨i0, hi, hz0, hz1, hz2⟩ := info_parts Trym.info26
  go_enter Trym.func16, Trym.ntmps16
  go_wp2_with (at_make; refine wpList_make_full _ rfl _ _ 33 rfl w.heap.size 26 i0 (.slice none 0 0) 1 Trym.underlying33 hi hz0 hz1 _ _ _ _ 0 rfl rfl rfl rfl ?b2 ?b3 (Nat.le_refl _) ?_)
  case b2 => omega
  case b3 => unfold maxLen; omega
  intro w0 hown0 hgrow0
  have e0 : (madeCells #[(Value.slice none 0 0)] 0).toList = [] := by simp [madeCells]
  rw [e0] at hown0
  go_wp2
  refine wp_loop_rounds 1 ?_
  rw [rounds_succ]
  go_wp2
  go_ret
  exact ⟨rfl, hown0, (Below.refl _ _).grown hgrow0 (Nat.le_refl _) (fun k h => by cases h)⟩

set_option maxHeartbeats 1600000 in
set_option maxRecDepth 100000 in
theorem copyT_some (b off : Nat) (E : List (Option Addr × Nat × Nat)) (T : List (List Int)) (cap : Nat) (w : World) (hlen : E.length ≤ 1048576) (hb : b < w.heap.size)
    (hc : ∀ i, i < E.length → w.cell? ⟨b, off + i, none⟩ = some (mkS (E.getD i zE)))
    (hT : ∀ i, i < E.length → (E.getD i zE).2.1 ≤ 1048576 ∧ IsRow (Value.int .u8) 0 w (E.getD i zE).1 (E.getD i zE).2.1 (E.getD i zE).2.2 (T.getD i [])) :
    Calls Trym.prog 16 #[.slice (some ⟨b, off, none⟩) E.length cap] w fun e w' => e = .returned (.slice (some ⟨w.heap.size, 0, none⟩) E.length E.length) ∧
      ∃ E' : List (Option Addr × Nat × Nat), E'.length = E.length ∧ w'.ownsRow w.heap.size 26 1 (.slice (some ⟨w.heap.size, 0, none⟩) E.length E.length) E.length (E'.map mkS) ∧ Inner w' (w.heap.size + 1) E' T ∧ Below w.heap.size w w' := by
  have hnil := fun (W : World) (a : Option Addr) (n c n' c' : Nat) => Lib.run_eql_slice_nil (P := Trym.prog) W 33 _ a n c n' c' Trym.underlying33
  obtain ⟨i0, hi, hz0, hz1, hz2⟩ := info_parts Trym.info26
  have HT := hid hT
  clear hT
  go_enter Trym.func16, Trym.ntmps16
  go_wp2_with (at_make; refine wpList_make_full _ rfl _ _ 33 rfl w.heap.size 26 i0 (.slice none 0 0) 1 Trym.underlying33 hi hz0 hz1 _ _ _ _ E.length rfl rfl rfl rfl ?b2 ?b3 (Nat.le_refl _) ?_)
  case b2 => rw [hz2]; omega
  case b3 => unfold maxLen; omega
  intro w0 hown0 hgrow0
  have e0 : (madeCells #[(Value.slice none 0 0)] E.length).toList = List.replicate E.length (Value.slice none 0 0) := toList_madeCells_one _ _
  rw [e0] at hown0
  go_wp2
  go_loopw [4] (fun i wr => ∃ (k : Nat) (E' : List (Option Addr × Nat × Nat)), k ≤ E.length ∧ E'.length = k ∧ i = .int .i64 k ∧ wr.ownsRow w.heap.size 26 1 (.slice (some ⟨w.heap.size, 0, none⟩) E.length E.length) E.length (E'.map mkS ++ List.replicate (E.length - E'.length) (Value.slice none 0 0)) ∧ Inner wr (w.heap.size + 1) E' T ∧ Below w.heap.size w wr)
    (fun i _ => E.length - (intOf i).toNat)
  case atStart => exact ⟨0, [], Nat.zero_le _, rfl, rfl, hown0, Inner.nil _ _ _, (Below.refl _ _).grown hgrow0 (Nat.le_refl _) (fun k h => by cases h)⟩
  case round =>
    obtain ⟨k, E', hk, hE', rfl, hown, hin, hnx⟩ := hrel
    have HE' := hid hE'
    clear hE'
    by_cases hlt : k < E.length
    · have hcx : wr.cell? ⟨b, off + k, none⟩ = some (mkS (E.getD k zE)) := (hnx.cell (by exact hb)).trans (hc k hlt)
      obtain ⟨hl1, hrow⟩ := HT.out k hlt
      generalize hek : E.getD k zE = ek at hcx hl1 hrow
      clear hek
      obtain ⟨ak, lk, ck⟩ := ek
      simp only [mkS] at hcx
      have hrow' := IsRow.later hrow (w' := wr) hnx
      have hG : w.heap.size < wr.heap.size := (hown.lt w.heap.size rfl).2
      go_wp2_with fail
      refine (copyB_any ak lk ck (T.getD k []) wr hrow' hl1).mono ?_
      rintro e W1 ⟨a', c', rfl, own1, B1⟩
      have hown1 := own_below hown B1
      have hin1 := Inner.below hin B1
      have hB1 : Below w.heap.size w W1 := hnx.trans (B1.mono hnx.size)
      have hd : W1.cell? ⟨w.heap.size, k, none⟩ = some (.slice none 0 0) := (hown1.cellAt k (by omega)).trans (by rw [← HE'.out]; exact row_get E' E.length (by rw [HE'.out]; exact hlt))
      have hf : W1.frozen? ⟨w.heap.size, k, none⟩ = false := hown1.frozenAt k
      have R := (hown1.stored k (mkS (a', lk, c'))).1
      have e1 := row_step E' E.length (a', lk, c') (by rw [HE'.out]; exact hlt)
      rw [HE'.out] at e1
      have e2 : E'.length = k := HE'.out
      rw [e2, e1] at R
      have hl2 : lk = (T.getD k []).length := hrow.1.symm
      have own1' : (W1.setCell ⟨w.heap.size, k, none⟩ (mkS (a', lk, c'))).ownsRow (w.heap.size + 1) 5 1 (mkS (a', lk, c')) (T.getD k []).length ((T.getD k []).map (Value.int .u8)) := by
        refine ownsRow_setCell_below ?_ (by simp) _
        rw [← hl2]
        exact own_base own1 hG
      have hin2 : Inner (W1.setCell ⟨w.heap.size, k, none⟩ (mkS (a', lk, c'))) (w.heap.size + 1) (E' ++ [(a', lk, c')]) T :=
        (hin1.setCell (by simp) _).snoc _ (by rw [e2]; exact hl2) (by rw [e2]; exact own1')
      have hB2 : Below w.heap.size w (W1.setCell ⟨w.heap.size, k, none⟩ (mkS (a', lk, c'))) := hB1.setCell (Nat.le_refl _) _
      have HR := hid R
      have HE2 : Hid ((E' ++ [(a', lk, c')]).length = k + 1) := by show _ = _; rw [List.length_append, e2]; rfl
      clear R e1 e2 hl2 own1' hown hown1 hin hin1 HE' hrow hrow' own1 hc HT
      simp only [mkS] at hB2
      go_wp2
      go_roundw
      case rel => exact ⟨k + 1, E' ++ [(a', lk, c')], by omega, HE2.out, by go_num, HR.out, hin2, hB2⟩
      case measure => simp [intOf]; omega
    · have hkl : k = E.length := by omega
      subst hkl
      go_wp2
      go_ret
      refine ⟨rfl, E', HE'.out, ?_, hin, hnx⟩
      rw [HE'.out, Nat.sub_self] at hown
      simpa using hown

/-- What the walk is told of a slice of texts that came in. -/
def IsTexts (w : World) (a : Option Addr) (len cap : Nat) (E : List (Option Addr × Nat × Nat)) (T : List (List Int)) : Prop :=
  IsRow mkS zE w a len cap E ∧ ∀ i, i < len → IsRow (Value.int .u8) 0 w (E.getD i zE).1 (E.getD i zE).2.1 (E.getD i zE).2.2 (T.getD i [])

theorem IsTexts.later {w w' : World} {a : Option Addr} {len cap : Nat} {E : List (Option Addr × Nat × Nat)} {T : List (List Int)} (h : IsTexts w a len cap E T) (hb : Below w.heap.size w w') : IsTexts w' a len cap E T :=
  ⟨h.1.later hb, fun i hi => (h.2 i hi).later hb⟩

theorem copyT_any (a : Option Addr) (len cap : Nat) (E : List (Option Addr × Nat × Nat)) (T : List (List Int)) (w : World) (hr : IsTexts w a len cap E T) (hlen : len ≤ 1048576) (hT : ∀ i, i < len → (E.getD i zE).2.1 ≤ 1048576) :
    Calls Trym.prog 16 #[.slice a len cap] w fun e w' => ∃ a' c' E', e = .returned (.slice a' len c') ∧ E'.length = len ∧ Rd mkS zE w' (.slice a' len c') E' ∧ Inner w' w.heap.size E' T ∧ Below w.heap.size w w' := by
  obtain ⟨⟨hl, h⟩, hin⟩ := hr
  rcases Nat.eq_zero_or_pos len with h0 | h0
  · subst h0
    obtain rfl := List.eq_nil_of_length_eq_zero hl
    rcases h with ⟨rfl, _, rfl⟩ | ⟨x, rfl, _⟩
    · refine (copyT_nil w).mono ?_
      rintro e w' ⟨rfl, rfl⟩
      exact ⟨_, _, [], rfl, rfl, .inl ⟨rfl, rfl⟩, Inner.nil _ _ _, Below.refl _ _⟩
    · refine (copyT_empty x cap w).mono ?_
      rintro e w' ⟨rfl, ho, hb⟩
      exact ⟨_, _, [], rfl, rfl, Rd.of_own (mk := mkS) (z := zE) (l := []) ho, Inner.nil _ _ _, hb⟩
  · have hat : IsRow mkS zE w a len cap E := ⟨hl, h⟩
    obtain ⟨b, off, rfl, _⟩ := hat.at h0
    have hc : ∀ i, i < E.length → w.cell? ⟨b, off + i, none⟩ = some (mkS (E.getD i zE)) := by
      intro i hi
      obtain ⟨b', o', h1, h2⟩ := hat.at (i := i) (by omega)
      simp only [Option.some.injEq, Addr.mk.injEq, and_true] at h1
      obtain ⟨rfl, rfl⟩ := h1
      exact h2
    subst hl
    refine (copyT_some b off E T cap w hlen (World.block_lt_of_cell? w _ (hc 0 h0)) hc (fun i hi => ⟨hT i hi, hin i hi⟩)).mono ?_
    rintro e w' ⟨rfl, E', hE', ho, hi, hb⟩
    refine ⟨_, _, E', rfl, hE', Rd.of_own ho, fun j hj => ⟨(hi j hj).1, own_base (hi j hj).2 (by omega)⟩, hb⟩

theorem Inner.rd {w : World} {B : Nat} {E : List (Option Addr × Nat × Nat)} {T : List (List Int)} (h : Inner w B E T) {j : Nat} (hj : j < E.length) :
    (E.getD j zE).2.1 = (T.getD j []).length ∧ Rd (Value.int .u8) 0 w (mkS (E.getD j zE)) (T.getD j []) := ⟨(h j hj).1, Rd.of_own (h j hj).2⟩

/-- A set of strings, one put in. -/
def updS (S : ByteArray → Bool) (k : ByteArray) : ByteArray → Bool := fun x => decide (x = k) || S x
def cntS (S : ByteArray → Bool) (k : ByteArray) (s : Nat) : Nat := if S k then s else s + 1
/-- The table that holds each of a set as itself. -/
def idF (S : ByteArray → Bool) : ByteArray → Option ByteArray := fun x => if S x then some x else none

theorem idF_upd (S : ByteArray → Bool) (k : ByteArray) : upd (idF S) k k = idF (updS S k) := by
  funext x
  unfold upd idF updS
  by_cases h : x = k
  · simp [h]
  · simp [h]
theorem idF_cnt (S : ByteArray → Bool) (k : ByteArray) (s : Nat) : cnt (idF S) k s = cntS S k s := by
  unfold cnt idF cntS
  by_cases h : S k = true <;> simp [h]
theorem idF_some {S : ByteArray → Bool} {k : ByteArray} (h : S k = true) : idF S k = some k := by simp [idF, h]
theorem idF_none {S : ByteArray → Bool} {k : ByteArray} (h : S k = false) : idF S k = none := by simp [idF, h]
theorem updS_same (S : ByteArray → Bool) (k : ByteArray) : updS S k k = true := by simp [updS]
theorem updS_more {S : ByteArray → Bool} {x : ByteArray} (k : ByteArray) (h : S x = true) : updS S k x = true := by simp [updS, h]
theorem updS_there {S : ByteArray → Bool} {k : ByteArray} (h : S k = true) : updS S k = S := by
  funext x
  unfold updS
  by_cases hx : x = k
  · simp [hx, h]
  · simp [hx]

theorem Mp.mono {w : World} {b n n' s : Nat} {F : ByteArray → Option ByteArray} (h : Mp w b n F s) (hn : n ≤ n') : Mp w b n' F s := by
  obtain ⟨D, ho, r⟩ := h
  exact ⟨D, ho.mono hn, r⟩

/-- Block b is a map of strings to bools whose keys are S, s of them, at most n. -/
def Ms (w : World) (b n : Nat) (S : ByteArray → Bool) (s : Nat) : Prop :=
  ∃ D, w.ownsMap Trym.prog 9 (plainElem (H := Unit) Trym.prog 4) b n D ∧ Maps.size D = s ∧ ∀ x : ByteArray, x.size ≤ maxLen → Maps.has D (kl x) = S x

theorem run_mk36 (x : Int) (w : World) : (Instr.makeMap 36 (some (.int .i64 x))).run Trym.prog w = .ok (.map (some w.heap.size)) (w.alloc (.map #[] 0)) := by
  simp [Instr.makeMap, run_underlying Trym.underlying36, asInt, asIntOf]

theorem Ms_made (w : World) : Ms (w.alloc (.map #[] 0)) w.heap.size 0 (fun _ => false) 0 :=
  ⟨_, World.ownsMap_made w Trym.prog 9 _, rfl, fun x _ => by simp [Maps.has]⟩

section
variable {w : World} {b n s : Nat} {S : ByteArray → Bool}
theorem Ms.kept {w' : World} {row : Option Nat} (h : Ms w b n S s) (hg : w.grownBy w' row) (hne : some b ≠ row) : Ms w' b n S s := by
  obtain ⟨D, ho, hs, hF⟩ := h; exact ⟨D, ho.kept hg hne, hs, hF⟩
theorem Ms.drew (h : Ms w b n S s) : Ms w.drew b n S s := h
theorem Ms.len (h : Ms w b n S s) (ty : TypeId) : (Builtin.len_ #[36] ty #[.map (some b)]).run Trym.prog w = .ok (.int .i64 s) w := by
  obtain ⟨D, ho, hs, hD⟩ := h
  rw [ho.len Trym.underlying36 ty, hs]
theorem Ms.update (h : Ms w b n S s) {k : ByteArray} (hn : n < maxLen) (hk : k.size ≤ maxLen) :
    ∃ w', (Instr.mapUpdate 36 (.map (some b)) (.string k) (.bool true)).run Trym.prog w = .ok () w' ∧ Ms w' b (n + 1) (updS S k) (cntS S k s) ∧ w.grownBy w' (some b) := by
  obtain ⟨D, ho, hs, hD⟩ := h
  obtain ⟨w', hr, ho', hg⟩ := ho.update K9 Trym.underlying36 hn (key9 hk) (plainElem_bool Trym.underlying4 true)
  have hm := ho.isMap
  have ht := ho.tidy K9
  have hkl : WideAt.IsKeyLit (kl k) := K9.key (key9 hk)
  refine ⟨w', hr, ⟨_, ho', ?_, fun x hx => ?_⟩, hg⟩
  · rw [Maps.size_put ht, hD k hk, hs]
    rfl
  · unfold updS
    by_cases hxk : x = k
    · subst hxk
      rw [Maps.has_put_same hm hkl]
      simp
    · have hne : kl x ≠ kl k := fun h => hxk (kl_inj h)
      rw [Maps.has_put_other hne, hD x hx]
      simp [hxk]
end

set_option maxHeartbeats 3200000 in
set_option maxRecDepth 100000 in
theorem bytes15_any (a0 : Option Addr) (len0 cap0 : Nat) (K : List ByteArray) (a1 : Option Addr) (len1 cap1 : Nat) (E : List (Option Addr × Nat × Nat)) (T : List (List Int)) (w : World)
    (r0 : IsRow Value.string ByteArray.empty w a0 len0 cap0 K) (r1 : IsTexts w a1 len1 cap1 E T) :
    Calls Trym.prog 15 #[.slice a0 len0 cap0, .slice a1 len1 cap1] w fun e w' => AnyB e ∧ w' = w := by
  have h0 := r0.max
  have h1 := r1.1.max
  unfold maxLen at h0 h1
  have R0 := hid r0
  have R1 := hid r1.1
  clear r0 r1
  by_cases c0 : len0 ≤ 1048576
  · go_enter Trym.func15, Trym.ntmps15
    go_wp2
    go_loop [5, 6] (fun z i => ∃ (k : Nat) (t : Int), k ≤ len0 ∧ i = .int .i64 k ∧ z = .int .i64 t ∧ 0 ≤ t ∧ t ≤ 1048576) (fun _ i => len0 - (intOf i).toNat)
    case atStart => exact ⟨0, len0, by omega, rfl, rfl, by omega, by omega⟩
    case round =>
      obtain ⟨k, t, hk, rfl, rfl, t0, t1⟩ := hrel
      by_cases hlt : k < len0
      · obtain ⟨b, o, ha, g⟩ := R0.out.at hlt
        subst ha
        generalize K.getD k ByteArray.empty = s at g
        by_cases hs : s.size ≤ 1048576
        · by_cases ht : t + s.size ≤ 1048576
          · go_wp2
            go_round
            case rel => exact ⟨k + 1, _, by omega, by go_num, rfl, by omega, by omega⟩
            case measure => simp [intOf]; omega
          · go_wp2
            go_ret
            exact ⟨anyB _, rfl⟩
        · go_wp2
          go_ret
          exact ⟨anyB _, rfl⟩
      · by_cases c1 : len1 ≤ 1048576
        · by_cases c1' : t + len1 ≤ 1048576
          · go_wp2
            go_loop [5, 7] (fun z i => ∃ (k : Nat) (t : Int), k ≤ len1 ∧ i = .int .i64 k ∧ z = .int .i64 t ∧ 0 ≤ t ∧ t ≤ 1048576) (fun _ i => len1 - (intOf i).toNat)
            case atStart => exact ⟨0, _, by omega, rfl, rfl, by omega, c1'⟩
            case round =>
              obtain ⟨k2, t2, hk2, rfl, rfl, t20, t21⟩ := hrel
              by_cases hlt2 : k2 < len1
              · obtain ⟨b, o, ha, g⟩ := R1.out.at hlt2
                subst ha
                generalize E.getD k2 zE = ek at g
                obtain ⟨ak, lk, ck⟩ := ek
                simp only [mkS] at g
                by_cases hs : lk ≤ 1048576
                · by_cases ht : t2 + lk ≤ 1048576
                  · go_wp2
                    go_round
                    case rel => exact ⟨k2 + 1, _, by omega, by go_num, rfl, by omega, by omega⟩
                    case measure => simp [intOf]; omega
                  · go_wp2
                    go_ret
                    exact ⟨anyB _, rfl⟩
                · go_wp2
                  go_ret
                  exact ⟨anyB _, rfl⟩
              · go_wp2
                go_ret
                exact ⟨anyB _, rfl⟩
          · go_wp2
            go_ret
            exact ⟨anyB _, rfl⟩
        · go_wp2
          go_ret
          exact ⟨anyB _, rfl⟩
  · go_enter Trym.func15, Trym.ntmps15
    go_wp2
    go_ret
    exact ⟨anyB _, rfl⟩

end Go.Proofs.Qxb6602597aMods
