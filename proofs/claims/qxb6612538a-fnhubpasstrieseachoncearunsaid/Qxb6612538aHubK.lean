import Derived.Test.Qxb6612538aHubJ
import Derived.Test.Qxb6612538aHubI
namespace Go.Proofs.Qxb6612538a
open Go.ChangeShapes Go.WideShapes Go.ChangeAt Go.RowKit

/-! ### A row of numbers of the call's own, by a function -/
/-- Block g is a row of n numbers, f's. -/
def Ints (w : World) (g n : Nat) (f : Nat → Nat) : Prop := w.ownsRow 0 3 1 (.slice (some ⟨g, 0, none⟩) n n) n (cellsOf n fun i => (f i : Int))

section
variable {w w' : World} {g n : Nat} {f : Nat → Nat}
theorem Ints.cell (h : Ints w g n f) (k : Nat) (hk : k < n) : w.cell? ⟨g, k, none⟩ = some (.int .i64 ((f k : Nat) : Int)) := by
  rw [World.ownsRow.cellAt h k (by omega), cellsOf_get _ _ _ hk]
theorem Ints.frozen (h : Ints w g n f) (k : Nat) : w.frozen? ⟨g, k, none⟩ = false := World.ownsRow.frozenAt h k
theorem Ints.lt (h : Ints w g n f) : g < w.heap.size := (World.ownsRow.lt h g rfl).2
theorem Ints.ext (h : Ints w g n f) {f' : Nat → Nat} (he : ∀ i, i < n → f i = f' i) : Ints w g n f' := by
  have e : (cellsOf n fun i => (f i : Int)) = cellsOf n fun i => (f' i : Int) := by
    unfold cellsOf
    exact List.map_congr_left fun i hi => by simp only [he i (List.mem_range.1 hi)]
  unfold Ints at *
  rw [← e]
  exact h
theorem Ints.kept (h : Ints w g n f) {row : Option Nat} (hg : w.grownBy w' row) (hne : row ≠ some g) : Ints w' g n f := World.ownsRow.kept h hg (.inr (by simp [Value.ownBlock]; exact fun e => hne e.symm))
theorem Ints.later (h : Ints w g n f) (hb : Below w.heap.size w w') : Ints w' g n f := h.kept (row := none) ⟨hb.os, hb.tape, hb.output, hb.size, fun k hk _ => hb.block k hk⟩ (by simp)
theorem cellsOf_set (n : Nat) (f : Nat → Nat) (k x : Nat) : (cellsOf n fun i => (f i : Int)).set k (.int .i64 (x : Int)) = cellsOf n fun i => ((if i = k then x else f i : Nat) : Int) := by
  apply List.ext_getElem?
  intro i
  rw [List.getElem?_set]
  by_cases hi : i < n
  · by_cases e : k = i
    · subst e
      rw [if_pos rfl, if_pos (by rw [cellsOf_length]; exact hi), cellsOf_get _ _ _ hi]
      simp
    · rw [if_neg e, cellsOf_get _ _ _ hi, cellsOf_get _ _ _ hi, if_neg (fun h => e h.symm)]
  · rw [List.getElem?_eq_none (by rw [cellsOf_length]; omega), List.getElem?_eq_none (by rw [cellsOf_length]; omega), cellsOf_length]
    split <;> simp
    omega
theorem Ints.store (h : Ints w g n f) (k x : Nat) : Ints (w.setCell ⟨g, k, none⟩ (.int .i64 (x : Int))) g n (fun i => if i = k then x else f i) := by
  have := (World.ownsRow.stored h k (.int .i64 (x : Int))).1
  rw [cellsOf_set] at this
  exact this
theorem grown_setCell (w : World) (g k : Nat) (u : Value) : w.grownBy (w.setCell ⟨g, k, none⟩ u) (some g) :=
  ⟨rfl, rfl, rfl, by simp, fun j _ hj => heap_setCell_other w ⟨g, k, none⟩ j u (fun e => hj (by simp [e]))⟩
theorem Ints.made {base : Nat} (h : w.ownsRow base 3 1 (.slice (some ⟨g, 0, none⟩) n n) n (madeCells #[Value.int .i64 0] n).toList) : Ints w g n (fun _ => 0) := by
  have e : (madeCells #[Value.int .i64 0] n).toList = cellsOf n fun _ => ((0 : Nat) : Int) := by
    rw [toList_madeCells_one]
    unfold cellsOf
    rw [List.map_const', List.length_range]
    rfl
  rw [e] at h
  obtain ⟨h1, h2⟩ := h
  refine ⟨h1, ?_⟩
  rcases h2 with h2 | ⟨g', cap, cur, a1, a2, a3⟩
  · exact .inl h2
  · exact .inr ⟨g', cap, cur, a1, Nat.zero_le _, a3⟩
end

/-! ### The steps -/
theorem info81 : (Try.prog.info? 81).map (fun i => (i.zero, i.size, i.bytes)) = some (some (.agg #[.int .i64 0, .int .i64 0, .int .u8 0, .string ByteArray.empty, .bool false, .int .u8 0]), 6, 56) := by kernel_rfl

theorem mk28 (u v : Nat) (k q : Int) (w : World) :
    Calls Try.prog 28 #[.int .i64 u, .int .i64 v, .int .u8 k, .int .u8 q] w fun e w' => e = .returned (.agg #[.int .i64 u, .int .i64 v, .int .u8 k, .string ⟨#[]⟩, .bool false, .int .u8 q]) ∧ Below w.heap.size w w' := by
  go_enter Try.func28, Try.ntmps28
  go_wp2_with fail
  exact bodyPost_ret (v := .agg #[.int .i64 u, .int .i64 v, .int .u8 k, .string ⟨#[]⟩, .bool false, .int .u8 q]) (by simp [results, Try.results28, go_sem]) rfl ⟨rfl, (Below.refl _ _).alloc (Nat.le_refl _) _⟩

/-- The cells of the step of edge e; hub: the hub's number. -/
def st6 (hub : Nat) (e : Nat × Nat) : List Value := [.int .i64 e.1, .int .i64 e.2, .int .u8 (if e.1 = hub ∨ e.2 = hub then 3 else 0), .string ⟨#[]⟩, .bool false, .int .u8 (if e.1 = hub ∨ e.2 = hub then 4 else 0)]
def flat6 (hub : Nat) (es : List (Nat × Nat)) : List Value := es.flatMap (st6 hub)

theorem flat6_length (hub : Nat) : ∀ es : List (Nat × Nat), (flat6 hub es).length = es.length * 6
  | [] => rfl
  | e :: es => by
    have ih := flat6_length hub es
    unfold flat6 at *
    rw [List.flatMap_cons, List.length_append, ih]
    simp [st6]
    omega
theorem flat6_snoc (hub : Nat) (es : List (Nat × Nat)) (e : Nat × Nat) : flat6 hub (es ++ [e]) = flat6 hub es ++ st6 hub e := by simp [flat6]
theorem flat6_get (hub : Nat) : ∀ (es : List (Nat × Nat)) (e j : Nat), e < es.length → j < 6 → (flat6 hub es)[e * 6 + j]? = (st6 hub (es.getD e (0, 0)))[j]?
  | [], e, j, he, _ => by simp at he
  | x :: es, 0, j, _, hj => by
    show (st6 hub x ++ flat6 hub es)[0 * 6 + j]? = _
    rw [List.getElem?_append_left (by simp [st6]; omega)]
    simp
  | x :: es, e + 1, j, he, hj => by
    have ih := flat6_get hub es e j (by simpa using he) hj
    show (st6 hub x ++ flat6 hub es)[(e + 1) * 6 + j]? = _
    rw [List.getElem?_append_right (by simp [st6]; omega), show (e + 1) * 6 + j - (st6 hub x).length = e * 6 + j by simp [st6]; omega, ih]
    simp

theorem steps_of_owns {w : World} {base bs n cap hub : Nat} {es : List (Nat × Nat)} (hn : n = es.length) (h : w.ownsRow base 81 6 (.slice (some ⟨bs, 0, none⟩) n cap) n (flat6 hub es)) :
    Steps w bs 0 n (fun e => (es.getD e (0, 0)).1) (fun e => (es.getD e (0, 0)).2) := by
  subst hn
  intro j hj
  have g : ∀ i, i < 6 → w.cell? ⟨bs, 0 + j * 6 + i, none⟩ = (st6 hub (es.getD j (0, 0)))[i]? := fun i hi => by
    rw [Nat.zero_add, h.cellAt (j * 6 + i) (by omega), flat6_get hub es j i hj hi]
  exact ⟨_, _, _, _, g 0 (by omega), g 1 (by omega), g 2 (by omega), g 3 (by omega), g 4 (by omega), g 5 (by omega)⟩

/-! ### The first loop's state -/
/-- ec: the edges counted; es: the edges laid. -/
structure C1 (w wr : World) (A C B N hub k : Nat) (T : Nat → List Nat) (ec es : List (Nat × Nat)) (v : Value) : Prop where
  start : Ints wr A (N + 1) (fun i => if i < k then pre T i else 0)
  count : Ints wr C N (cntE ec)
  steps : wr.ownsRow B 81 6 v es.length (flat6 hub es)
  nil : es.length = 0 → v = .slice none 0 0
  below : Below w.heap.size w wr
  size : B ≤ wr.heap.size

section
variable {w wr : World} {A C B N hub k : Nat} {T : Nat → List Nat} {ec es : List (Nat × Nat)} {v : Value}
theorem C1.later {w' : World} (h : C1 w wr A C B N hub k T ec es v) (hb : Below wr.heap.size wr w') : C1 w w' A C B N hub k T ec es v :=
  ⟨h.start.later hb, h.count.later hb, h.steps.kept (row := none) ⟨hb.os, hb.tape, hb.output, hb.size, fun k hk _ => hb.block k hk⟩ (by cases hv : v.ownBlock <;> simp), h.nil, h.below.trans (hb.mono h.below.size), Nat.le_trans h.size hb.size⟩

theorem C1.append {w' : World} {v' : Value} {x : Nat × Nat} (h : C1 w wr A C B N hub k T ec es v) (hA : A < B) (hC : C < B) (hwB : w.heap.size ≤ B) (hown : w'.ownsRow B 81 6 v' (es.length + 1) (flat6 hub es ++ st6 hub x)) (hgrow : wr.grownBy w' v.ownBlock) : C1 w w' A C B N hub k T ec (es ++ [x]) v' := by
  have hne : ∀ g, g < B → v.ownBlock ≠ some g := fun g hg e => by have := (h.steps.lt g e).1; omega
  refine ⟨h.start.kept hgrow (hne A hA), h.count.kept hgrow (hne C hC), ?_, fun h0 => by simp at h0, h.below.grown hgrow h.below.size (fun g hg => by have := (h.steps.lt g hg).1; omega), Nat.le_trans h.size hgrow.size⟩
  rw [flat6_snoc, List.length_append]
  exact hown

theorem C1.bump {x : Nat × Nat} (h : C1 w wr A C B N hub k T ec es v) (hAC : A ≠ C) (hC : C < B) (hw : w.heap.size ≤ C) : C1 w (wr.setCell ⟨C, x.2, none⟩ (.int .i64 ((cntE ec x.2 + 1 : Nat) : Int))) A C B N hub k T (ec ++ [x]) es v := by
  have hg := grown_setCell wr C x.2 (.int .i64 ((cntE ec x.2 + 1 : Nat) : Int))
  refine ⟨h.start.kept hg (by simp; exact fun e => hAC e.symm), (h.count.store x.2 (cntE ec x.2 + 1)).ext (fun i _ => ?_), h.steps.kept hg (.inr ?_), h.nil, h.below.setCell hw _, by rw [show (wr.setCell ⟨C, x.2, none⟩ (.int .i64 ((cntE ec x.2 + 1 : Nat) : Int))).heap.size = wr.heap.size by simp]; exact h.size⟩
  · rw [cntE_snoc]
    by_cases e : i = x.2
    · subst e; simp
    · have e' : ¬ x.2 = i := fun h => e h.symm
      simp [e, e']
  · intro e
    have := (h.steps.lt C e).1
    omega

theorem C1.mark (h : C1 w wr A C B N hub k T ec es v) (hAC : A ≠ C) (hA : A < B) (hw : w.heap.size ≤ A) (hes : es.length = pre T k) : C1 w (wr.setCell ⟨A, k, none⟩ (.int .i64 ((es.length : Nat) : Int))) A C B N hub (k + 1) T ec es v := by
  have hg := grown_setCell wr A k (.int .i64 ((es.length : Nat) : Int))
  refine ⟨(h.start.store k es.length).ext (fun i _ => ?_), h.count.kept hg (by simp; exact hAC), h.steps.kept hg (.inr ?_), h.nil, h.below.setCell hw _, by rw [show (wr.setCell ⟨A, k, none⟩ (.int .i64 ((es.length : Nat) : Int))).heap.size = wr.heap.size by simp]; exact h.size⟩
  · by_cases e : i = k
    · subst e; simp [hes]
    · by_cases e2 : i < k
      · simp [e, e2, show i < k + 1 by omega]
      · simp [e, e2, show ¬ i < k + 1 by omega]
  · intro e
    have := (h.steps.lt A e).1
    omega
end

end Go.Proofs.Qxb6612538a
