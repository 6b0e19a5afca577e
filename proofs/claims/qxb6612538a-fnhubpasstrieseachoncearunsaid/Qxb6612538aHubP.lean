import Derived.Test.Qxb6612538aHubO
namespace Go.Proofs.Qxb6612538a
open Go.ChangeShapes Go.WideShapes Go.ChangeAt Go.RowKit

/-- Blocks that a pass leaves as they are in the world w. -/
structure Keep where
  w : World
  p : Nat → Prop

/-- The blocks that a pass reads or writes lie apart, and above B. -/
structure Cfg (kp : Keep) (B R Ca Ke Wa AB Ac Tk : Nat) : Prop where
  ge : B ≤ R ∧ B ≤ Ca ∧ B ≤ Ke ∧ B ≤ Wa ∧ B ≤ AB ∧ B ≤ Ac ∧ B ≤ Tk
  rows : R ≠ Ca ∧ R ≠ Ke ∧ R ≠ Wa ∧ Ca ≠ Ke ∧ Ca ≠ Wa ∧ Ke ≠ Wa
  ab : AB ≠ R ∧ AB ≠ Ca ∧ AB ≠ Ke ∧ AB ≠ Wa
  ac : Ac ≠ R ∧ Ac ≠ Ca ∧ Ac ≠ Ke ∧ Ac ≠ Wa
  tk : Tk ≠ R ∧ Tk ≠ Ca ∧ Tk ≠ Ke ∧ Tk ≠ Wa ∧ Tk ≠ AB ∧ Tk ≠ Ac
  kp : ∀ k, kp.p k → k ≠ Ca ∧ k ≠ Ke ∧ k ≠ Wa ∧ k ≠ Tk

/-- k is one of the blocks that a pass only reads by name. -/
def OneOf (kp : Keep) (R Ca Ke Wa AB Ac k : Nat) : Prop := k = R ∨ k = Ca ∨ k = Ke ∨ k = Wa ∨ k = AB ∨ k = Ac ∨ kp.p k

theorem Hub.same {w w' : World} {R Gr Ca Ke Wa : Nat} {run came : Int} {kept : Bool} {v : Value} (h : Hub w R Gr Ca Ke Wa run came kept v) (hs : ∀ k, k = R ∨ k = Ca ∨ k = Ke ∨ k = Wa → w'.heap[k]? = w.heap[k]?) : Hub w' R Gr Ca Ke Wa run came kept v := by
  have c : ∀ k o x, (k = R ∨ k = Ca ∨ k = Ke ∨ k = Wa) → w.cell? ⟨k, o, none⟩ = some x → w'.cell? ⟨k, o, none⟩ = some x := fun k o x hk hx => (World.cell?_of_block (w := w) (hs k hk)).trans hx
  have f : ∀ k o, (k = R ∨ k = Ca ∨ k = Ke ∨ k = Wa) → w.frozen? ⟨k, o, none⟩ = false → w'.frozen? ⟨k, o, none⟩ = false := fun k o hk hx => (World.frozen?_of_block (w := w) (hs k hk)).trans hx
  exact ⟨c _ _ _ (.inl rfl) h.g, c _ _ _ (.inl rfl) h.states, c _ _ _ (.inl rfl) h.run, f _ _ (.inl rfl) h.frun, c _ _ _ (.inl rfl) h.camev, c _ _ _ (.inl rfl) h.keptv, c _ _ _ (.inl rfl) h.waitv,
    c _ _ _ (.inr (.inl rfl)) h.came, f _ _ (.inr (.inl rfl)) h.fcame, c _ _ _ (.inr (.inr (.inl rfl))) h.kept, f _ _ (.inr (.inr (.inl rfl))) h.fkept, c _ _ _ (.inr (.inr (.inr rfl))) h.wait, f _ _ (.inr (.inr (.inr rfl))) h.fwait⟩

/-- What a pass's loop knows of the world. -/
structure PS (kp : Keep) (w0 wr : World) (D : ND) (P R Gr Ca Ke Wa AB Ac : Nat) (run came : Int) (kept : Bool) (v : Value) : Prop where
  below : Below w0.heap.size w0 wr
  hub : Hub wr R Gr Ca Ke Wa run came kept v
  ab : wr.cell? ⟨AB, 0, none⟩ = some (.slice (some ⟨Ac, 0, none⟩) P P)
  ac : ∀ m, m < P → wr.cell? ⟨Ac, m, none⟩ = some (.bool (D.acc m))
  acl : Ac < wr.heap.size
  keep : ∀ k, kp.p k → k < wr.heap.size ∧ wr.heap[k]? = kp.w.heap[k]?

section
variable {kp : Keep} {w0 wr w' : World} {D : ND} {P R Gr Ca Ke Wa AB Ac Tk : Nat} {run came : Int} {kept : Bool} {v : Value}

theorem PS.same (h : PS kp w0 wr D P R Gr Ca Ke Wa AB Ac run came kept v) (hb : Below w0.heap.size w0 w') (hz : wr.heap.size ≤ w'.heap.size) (hs : ∀ k, OneOf kp R Ca Ke Wa AB Ac k → w'.heap[k]? = wr.heap[k]?) : PS kp w0 w' D P R Gr Ca Ke Wa AB Ac run came kept v :=
  ⟨hb, h.hub.same fun k hk => hs k (by unfold OneOf; rcases hk with h | h | h | h <;> simp [h]), (World.cell?_of_block (w := wr) (hs AB (by unfold OneOf; simp))).trans h.ab, fun m hm => (World.cell?_of_block (w := wr) (hs Ac (by unfold OneOf; simp))).trans (h.ac m hm), Nat.lt_of_lt_of_le h.acl hz, fun k hk => ⟨Nat.lt_of_lt_of_le (h.keep k hk).1 hz, (hs k (by unfold OneOf; simp [hk])).trans (h.keep k hk).2⟩⟩

/-- All of them lie below the heap's end. -/
theorem PS.lt (h : PS kp w0 wr D P R Gr Ca Ke Wa AB Ac run came kept v) {k : Nat} (hk : OneOf kp R Ca Ke Wa AB Ac k) : k < wr.heap.size := by
  unfold OneOf at hk
  rcases hk with rfl | rfl | rfl | rfl | rfl | rfl | hk
  · exact World.block_lt_of_cell? _ _ h.hub.g
  · exact World.block_lt_of_cell? _ _ h.hub.came
  · exact World.block_lt_of_cell? _ _ h.hub.kept
  · exact World.block_lt_of_cell? _ _ h.hub.wait
  · exact World.block_lt_of_cell? _ _ h.ab
  · exact h.acl
  · exact (h.keep k hk).1

theorem PS.later (h : PS kp w0 wr D P R Gr Ca Ke Wa AB Ac run came kept v) (hb : Below wr.heap.size wr w') : PS kp w0 w' D P R Gr Ca Ke Wa AB Ac run came kept v :=
  h.same (h.below.trans (hb.mono h.below.size)) hb.size fun k hk => hb.block k (h.lt hk)

/-- A world in which no block but one outside has turned. -/
theorem PS.grown (h : PS kp w0 wr D P R Gr Ca Ke Wa AB Ac run came kept v) {row : Option Nat} (hg : wr.grownBy w' row) (hrow : ∀ g, row = some g → w0.heap.size ≤ g ∧ ¬ OneOf kp R Ca Ke Wa AB Ac g) : PS kp w0 w' D P R Gr Ca Ke Wa AB Ac run came kept v :=
  h.same (h.below.grown hg h.below.size fun g hg' => (hrow g hg').1) hg.size fun k hk => hg.block k (h.lt hk) fun e => (hrow k e.symm).2 hk

theorem PS.but {base : Nat} (h : PS kp w0 wr D P R Gr Ca Ke Wa AB Ac run came kept v) (hg : But base Tk wr w') (hw : w0.heap.size ≤ base) (hT : w0.heap.size ≤ Tk) (hTk : ¬ OneOf kp R Ca Ke Wa AB Ac Tk) (hl : ∀ k, OneOf kp R Ca Ke Wa AB Ac k → k < base) : PS kp w0 w' D P R Gr Ca Ke Wa AB Ac run came kept v :=
  h.same (h.below.trans ⟨hg.os, hg.tape, hg.output, hg.size, fun k hk => hg.block k (by omega) (by omega)⟩) hg.size fun k hk => hg.block k (hl k hk) (fun e => hTk (e ▸ hk))

theorem PS.setKept (hc : Cfg kp w0.heap.size R Ca Ke Wa AB Ac Tk) (h : PS kp w0 wr D P R Gr Ca Ke Wa AB Ac run came kept v) (z : Bool) : PS kp w0 (wr.setCell ⟨Ke, 0, none⟩ (.bool z)) D P R Gr Ca Ke Wa AB Ac run came z v := by
  have o : ∀ k i x, k ≠ Ke → wr.cell? ⟨k, i, none⟩ = some x → (wr.setCell ⟨Ke, 0, none⟩ (.bool z)).cell? ⟨k, i, none⟩ = some x := fun k i x hk hx => by
    rw [World.cell?_setCell_other _ _ _ _ (by intro e; injection e; omega)]; exact hx
  have c1 := hc.rows
  have c2 := hc.ab
  have c3 := hc.ac
  have u := h.hub
  refine ⟨h.below.setCell hc.ge.2.2.1 _, ⟨o _ _ _ (by omega) u.g, o _ _ _ (by omega) u.states, o _ _ _ (by omega) u.run, by simpa using u.frun, o _ _ _ (by omega) u.camev, o _ _ _ (by omega) u.keptv, o _ _ _ (by omega) u.waitv, o _ _ _ (by omega) u.came, by simpa using u.fcame, World.cell?_setCell_same _ _ _ u.kept, by simpa using u.fkept, o _ _ _ (by omega) u.wait, by simpa using u.fwait⟩,
    o _ _ _ (by omega) h.ab, fun m hm => o _ _ _ (by omega) (h.ac m hm), by simpa using h.acl, fun k hk => ⟨by simpa using (h.keep k hk).1, ((grown_setCell wr Ke 0 _).block k (h.keep k hk).1 (by have := (hc.kp k hk).2.1; simp; exact this)).trans (h.keep k hk).2⟩⟩

theorem PS.setWait (hc : Cfg kp w0.heap.size R Ca Ke Wa AB Ac Tk) (h : PS kp w0 wr D P R Gr Ca Ke Wa AB Ac run came kept v) (v' : Value) : PS kp w0 (wr.setCell ⟨Wa, 0, none⟩ v') D P R Gr Ca Ke Wa AB Ac run came kept v' := by
  have o : ∀ k i x, k ≠ Wa → wr.cell? ⟨k, i, none⟩ = some x → (wr.setCell ⟨Wa, 0, none⟩ v').cell? ⟨k, i, none⟩ = some x := fun k i x hk hx => by
    rw [World.cell?_setCell_other _ _ _ _ (by intro e; injection e; omega)]; exact hx
  have c1 := hc.rows
  have c2 := hc.ab
  have c3 := hc.ac
  have u := h.hub
  refine ⟨h.below.setCell hc.ge.2.2.2.1 _, ⟨o _ _ _ (by omega) u.g, o _ _ _ (by omega) u.states, o _ _ _ (by omega) u.run, by simpa using u.frun, o _ _ _ (by omega) u.camev, o _ _ _ (by omega) u.keptv, o _ _ _ (by omega) u.waitv, o _ _ _ (by omega) u.came, by simpa using u.fcame, o _ _ _ (by omega) u.kept, by simpa using u.fkept, World.cell?_setCell_same _ _ _ u.wait, by simpa using u.fwait⟩,
    o _ _ _ (by omega) h.ab, fun m hm => o _ _ _ (by omega) (h.ac m hm), by simpa using h.acl, fun k hk => ⟨by simpa using (h.keep k hk).1, ((grown_setCell wr Wa 0 _).block k (h.keep k hk).1 (by have := (hc.kp k hk).2.2.1; simp; exact this)).trans (h.keep k hk).2⟩⟩

theorem PS.setCame (hc : Cfg kp w0.heap.size R Ca Ke Wa AB Ac Tk) (h : PS kp w0 wr D P R Gr Ca Ke Wa AB Ac run came kept v) (c' : Int) : PS kp w0 (wr.setCell ⟨Ca, 0, none⟩ (.int .i64 c')) D P R Gr Ca Ke Wa AB Ac run c' kept v := by
  have o : ∀ k i x, k ≠ Ca → wr.cell? ⟨k, i, none⟩ = some x → (wr.setCell ⟨Ca, 0, none⟩ (.int .i64 c')).cell? ⟨k, i, none⟩ = some x := fun k i x hk hx => by
    rw [World.cell?_setCell_other _ _ _ _ (by intro e; injection e; omega)]; exact hx
  have c1 := hc.rows
  have c2 := hc.ab
  have c3 := hc.ac
  have u := h.hub
  refine ⟨h.below.setCell hc.ge.2.1 _, ⟨o _ _ _ (by omega) u.g, o _ _ _ (by omega) u.states, o _ _ _ (by omega) u.run, by simpa using u.frun, o _ _ _ (by omega) u.camev, o _ _ _ (by omega) u.keptv, o _ _ _ (by omega) u.waitv, World.cell?_setCell_same _ _ _ u.came, by simpa using u.fcame, o _ _ _ (by omega) u.kept, by simpa using u.fkept, o _ _ _ (by omega) u.wait, by simpa using u.fwait⟩,
    o _ _ _ (by omega) h.ab, fun m hm => o _ _ _ (by omega) (h.ac m hm), by simpa using h.acl, fun k hk => ⟨by simpa using (h.keep k hk).1, ((grown_setCell wr Ca 0 _).block k (h.keep k hk).1 (by have := (hc.kp k hk).1; simp; exact this)).trans (h.keep k hk).2⟩⟩

theorem PS.drewN (h : PS kp w0 wr D P R Gr Ca Ke Wa AB Ac run came kept v) (q : Nat) : PS kp w0 (wr.drewN q) D P R Gr Ca Ke Wa AB Ac run came kept v := h.later (below_drewN (Below.refl _ _) q)

theorem Cfg.tkOut (hc : Cfg kp w0.heap.size R Ca Ke Wa AB Ac Tk) : ¬ OneOf kp R Ca Ke Wa AB Ac Tk := by
  have h1 := hc.tk
  have h2 := fun h => (hc.kp Tk h).2.2.2 rfl
  unfold OneOf
  simp [h1]
  exact h2
end

/-! ### Taken so far -/
def TS (w : World) (Tk base : Nat) (t : List Nat) : Prop := ∃ tv, w.cell? ⟨Tk, 0, none⟩ = some tv ∧ w.frozen? ⟨Tk, 0, none⟩ = false ∧ w.ownsRow base 3 1 tv t.length (ints t)

section
variable {w w' : World} {Tk base : Nat} {t : List Nat}
theorem TS.same (h : TS w Tk base t) {row : Option Nat} (hg : w.grownBy w' row) (hrow : ∀ g, row = some g → g ≠ Tk ∧ g < base) : TS w' Tk base t := by
  obtain ⟨tv, h1, h2, h3⟩ := h
  have hne : some Tk ≠ row := fun e => (hrow Tk e.symm).1 rfl
  have hl := World.block_lt_of_cell? _ _ h1
  refine ⟨tv, hg.cell h1 hne, ?_, h3.kept hg ?_⟩
  · rw [← h2]; exact World.frozen?_of_block (hg.block Tk hl hne)
  · cases hv : tv.ownBlock with
    | none => exact .inl rfl
    | some g =>
      refine .inr (fun e => ?_)
      have := (hrow g e.symm).2
      have := (h3.lt g hv).1
      omega
theorem TS.later (h : TS w Tk base t) (hb : Below w.heap.size w w') : TS w' Tk base t := h.same (row := none) ⟨hb.os, hb.tape, hb.output, hb.size, fun k hk _ => hb.block k hk⟩ (fun g hg => by cases hg)
theorem TS.setCell (h : TS w Tk base t) {g : Nat} (hg : g ≠ Tk) (hb : g < base) (k : Nat) (u : Value) : TS (w.setCell ⟨g, k, none⟩ u) Tk base t := h.same (grown_setCell w g k u) (fun g' hg' => by simp at hg'; omega)
end

/-! ### Plain: a list filtered in place -/
structure Filt (q : Nat → Bool) (W M : List Nat) (i k : Nat) : Prop where
  len : M.length = W.length
  le : i ≤ k
  kle : k ≤ W.length
  low : M.take i = (W.take k).filter q
  high : M.drop k = W.drop k

theorem take_snoc' (L : List Nat) (j : Nat) (h : j < L.length) : L.take (j + 1) = L.take j ++ [L.getD j 0] := by
  rw [List.take_succ_eq_append_getElem h]
  simp [List.getD, List.getElem?_eq_getElem h]

section
variable {q : Nat → Bool} {W M : List Nat} {i k : Nat}
theorem Filt.start (q : Nat → Bool) (W : List Nat) : Filt q W W 0 0 := ⟨rfl, Nat.le_refl _, Nat.zero_le _, by simp, rfl⟩
theorem Filt.get (h : Filt q W M i k) : M.getD k 0 = W.getD k 0 := by
  have e : (M.drop k)[0]? = (W.drop k)[0]? := by rw [h.high]
  simp only [List.getElem?_drop, Nat.add_zero] at e
  simp [List.getD, e]
theorem Filt.drop (h : Filt q W M i k) (hk : k < W.length) (hq : q (W.getD k 0) = false) : Filt q W M i (k + 1) := by
  refine ⟨h.len, by have := h.le; omega, by omega, ?_, ?_⟩
  · rw [take_snoc' W k hk, List.filter_append, h.low]
    simp only [List.filter_cons, hq, List.filter_nil]
    simp
  · rw [← List.drop_drop, ← List.drop_drop, h.high]
theorem Filt.keep (h : Filt q W M i k) (hk : k < W.length) (hq : q (W.getD k 0) = true) : Filt q W (M.set i (W.getD k 0)) (i + 1) (k + 1) := by
  have hi := h.le
  have hM := h.len
  refine ⟨by simpa using h.len, by omega, by omega, ?_, ?_⟩
  · rw [take_snoc' W k hk, List.filter_append, ← h.low, List.take_succ_eq_append_getElem (by simp; omega)]
    simp only [List.filter_cons, hq, List.filter_nil, if_true]
    congr 1
    · rw [List.take_set, List.set_eq_of_length_le (by simp; omega)]
    · simp
  · rw [List.drop_set, if_pos (by omega), ← List.drop_drop, ← List.drop_drop, h.high]
theorem Filt.done (h : Filt q W M i W.length) : M.take i = W.filter q := by rw [h.low, List.take_length]
theorem filter_take_succ (p : Nat → Bool) (hk : k < W.length) : (W.take (k + 1)).filter p = (W.take k).filter p ++ if p (W.getD k 0) = true then [W.getD k 0] else [] := by
  rw [take_snoc' W k hk, List.filter_append, List.filter_cons, List.filter_nil]
theorem any_take_succ (p : Nat → Bool) (hk : k < W.length) : (W.take (k + 1)).any p = ((W.take k).any p || p (W.getD k 0)) := by
  rw [take_snoc' W k hk, List.any_append]
  simp
end

theorem ints_set (M : List Nat) (i x : Nat) : (ints M).set i (.int .i64 (x : Int)) = ints (M.set i x) := by simp [ints]

/-- The hub joins n to m in the search's direction. -/
def jb (T : Nat → List Nat) (fwd : Bool) (n m : Nat) : Bool := if fwd then joinB T n m else joinB T m n

/-- What a pass starts from: W waits (in v), nothing is taken yet. -/
structure ST (kp : Keep) (w0 w : World) (D : ND) (P R Gr Ca Ke Wa AB Ac Tk bq : Nat) (run came : Int) (kept : Bool) (v : Value) (W : List Nat) : Prop where
  ps : PS kp w0 w D P R Gr Ca Ke Wa AB Ac run came kept v
  own : w.ownsRow bq 3 1 v W.length (ints W)
  apart : ∀ g, v.ownBlock = some g → ¬ OneOf kp R Ca Ke Wa AB Ac g ∧ g ≠ Tk
  bq : w0.heap.size ≤ bq
  tk1 : w.cell? ⟨Tk, 0, none⟩ = some (.slice none 0 0)
  tk2 : w.frozen? ⟨Tk, 0, none⟩ = false
  inP : ∀ j, j < W.length → W.getD j 0 < P
  small : W.length ≤ 65536

theorem ST.drewN {kp : Keep} {w0 w : World} {D : ND} {P R Gr Ca Ke Wa AB Ac Tk bq : Nat} {run came : Int} {kept : Bool} {v : Value} {W : List Nat} (h : ST kp w0 w D P R Gr Ca Ke Wa AB Ac Tk bq run came kept v W) (q : Nat) : ST kp w0 (w.drewN q) D P R Gr Ca Ke Wa AB Ac Tk bq run came kept v W :=
  ⟨h.ps.drewN q, h.own, h.apart, h.bq, h.tk1, h.tk2, h.inP, h.small⟩

theorem owns_shrink {w : World} {base g n cap i : Nat} {xs : List Value} (h : w.ownsRow base 3 1 (.slice (some ⟨g, 0, none⟩) n cap) n xs) (hi : i ≤ n) : w.ownsRow base 3 1 (.slice (some ⟨g, 0, none⟩) i cap) i (xs.take i) := by
  obtain ⟨h1, h2⟩ := h
  refine ⟨by simp at h1 ⊢; omega, ?_⟩
  rcases h2 with ⟨h', _⟩ | ⟨g', cap', cur, h', hb, hg, hnc, hcm, hcs, htake⟩
  · simp at h'
  · simp only [Value.slice.injEq, Option.some.injEq, Addr.mk.injEq, and_true, true_and] at h'
    obtain ⟨rfl, rfl⟩ := h'
    refine .inr ⟨g, cap, cur, rfl, hb, hg, by omega, hcm, hcs, ?_⟩
    rw [← htake, List.take_take]
    congr 1
    omega

/-- What a pass gives: taken, kept, and what is left waiting. -/
def PassPost (kp : Keep) (w0 : World) (D : ND) (P R Gr Ca Ke Wa AB Ac Tk bq : Nat) (run : Int) (K : Bool) (tk wt : List Nat) (e : Ending) (w' : World) : Prop :=
  e = .returned (.bool K) ∧ ∃ base, (∃ v', PS kp w0 w' D P R Gr Ca Ke Wa AB Ac run run K v' ∧ w'.ownsRow bq 3 1 v' wt.length (ints wt) ∧ ∀ g, v'.ownBlock = some g → (¬ OneOf kp R Ca Ke Wa AB Ac g ∧ g ≠ Tk) ∧ g < base) ∧ TS w' Tk base tk ∧ ∀ k, OneOf kp R Ca Ke Wa AB Ac k → k < base

end Go.Proofs.Qxb6612538a
