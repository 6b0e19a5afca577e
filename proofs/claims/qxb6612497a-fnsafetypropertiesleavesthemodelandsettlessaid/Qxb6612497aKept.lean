import Derived.Test.Qxb6612497aLib
namespace Go.Proofs.Qxb6612497a
open Go.ChangeShapes Go.WideShapes Go.ChangeAt Go.RowKit

/-! ### Plain: what DeleteFunc's loop keeps -/

/-- Of the first j elements those that stay lie in the first i places; from j on the row is as it was. -/
structure Kept (sf : Nat → Bool) (L M : List Nat) (i j : Nat) : Prop where
  len : M.length = L.length
  lt : i < j
  le : j ≤ L.length
  low : M.take i = (L.take j).filter sf
  high : M.drop j = L.drop j

theorem filter_take_all (sf : Nat → Bool) (L : List Nat) (k : Nat) (hk : k ≤ L.length) (h : ∀ j, j < k → sf (L.getD j 0) = true) : (L.take k).filter sf = L.take k := by
  rw [List.filter_eq_self]
  intro a ha
  obtain ⟨j, hj, rfl⟩ := List.mem_iff_getElem.1 ha
  have hj' : j < k := by simp at hj; omega
  have := h j hj'
  simp [List.getD, List.getElem?_eq_getElem (show j < L.length by omega)] at this
  simpa using this

theorem take_snoc_getD (L : List Nat) (j : Nat) (h : j < L.length) : L.take (j + 1) = L.take j ++ [L.getD j 0] := by
  rw [List.take_succ_eq_append_getElem h]
  simp [List.getD, List.getElem?_eq_getElem h]

theorem Kept.start {sf : Nat → Bool} {L : List Nat} {k : Nat} (hk : k < L.length) (h1 : sf (L.getD k 0) = false) (h : ∀ j, j < k → sf (L.getD j 0) = true) : Kept sf L L k (k + 1) := by
  refine ⟨rfl, by omega, by omega, ?_, rfl⟩
  rw [take_snoc_getD L k hk, List.filter_append, filter_take_all sf L k (by omega) h]
  simp only [List.filter_cons, h1, List.filter_nil]
  simp

theorem Kept.get {sf : Nat → Bool} {L M : List Nat} {i j : Nat} (h : Kept sf L M i j) : M.getD j 0 = L.getD j 0 := by
  have e : (M.drop j)[0]? = (L.drop j)[0]? := by rw [h.high]
  simp only [List.getElem?_drop, Nat.add_zero] at e
  simp [List.getD, e]

theorem Kept.skip {sf : Nat → Bool} {L M : List Nat} {i j : Nat} (h : Kept sf L M i j) (hj : j < L.length) (hs : sf (L.getD j 0) = false) : Kept sf L M i (j + 1) := by
  refine ⟨h.len, by have := h.lt; omega, by omega, ?_, ?_⟩
  · rw [take_snoc_getD L j hj, List.filter_append, h.low]
    simp only [List.filter_cons, hs, List.filter_nil]
    simp
  · rw [← List.drop_drop, ← List.drop_drop, h.high]

theorem Kept.keep {sf : Nat → Bool} {L M : List Nat} {i j : Nat} (h : Kept sf L M i j) (hj : j < L.length) (hs : sf (L.getD j 0) = true) : Kept sf L (M.set i (L.getD j 0)) (i + 1) (j + 1) := by
  have hi := h.lt
  have hM := h.len
  refine ⟨by simpa using h.len, by omega, by omega, ?_, ?_⟩
  · rw [take_snoc_getD L j hj, List.filter_append, ← h.low]
    rw [List.take_succ_eq_append_getElem (by simp; omega)]
    simp only [List.filter_cons, hs, List.filter_nil, if_true]
    congr 1
    · rw [List.take_set, List.set_eq_of_length_le (by simp; omega)]
    · simp
  · rw [List.drop_set, if_pos (by omega), ← List.drop_drop, ← List.drop_drop, h.high]

theorem Kept.done {sf : Nat → Bool} {L M : List Nat} {i : Nat} (h : Kept sf L M i L.length) : M.take i = L.filter sf := by
  rw [h.low, List.take_length]

/-! ### Rows -/

theorem ownsRow_shrink {w : World} {base g n cap i : Nat} {xs : List Value} (h : w.ownsRow base 28 1 (.slice (some ⟨g, 0, none⟩) n cap) n xs) (hi : i ≤ n) :
    w.ownsRow base 28 1 (.slice (some ⟨g, 0, none⟩) i cap) i (xs.take i) := by
  obtain ⟨h1, h2⟩ := h
  refine ⟨by simp at h1 ⊢; omega, ?_⟩
  rcases h2 with ⟨h', _⟩ | ⟨g', cap', cur, h', hb, hg, hnc, hcm, hcs, htake⟩
  · simp at h'
  · simp only [Value.slice.injEq, Option.some.injEq, Addr.mk.injEq, and_true, true_and] at h'
    obtain ⟨rfl, rfl⟩ := h'
    refine .inr ⟨g, cap, cur, rfl, hb, hg, by omega, hcm, hcs, ?_⟩
    rw [← htake, List.take_take]
    congr 1
    omega

theorem ownsRow_beyond {base g n cap : Nat} {xs : List Value} : ∀ (vs : List Value) (o : Nat) (w : World), w.ownsRow base 28 1 (.slice (some ⟨g, 0, none⟩) n cap) n xs → n ≤ o →
    (w.setCells g o vs).ownsRow base 28 1 (.slice (some ⟨g, 0, none⟩) n cap) n xs ∧ w.grownBy (w.setCells g o vs) (some g)
  | [], _, w, h, _ => ⟨h, World.grownBy.refl w _⟩
  | v :: r, o, w, h, hn => by
    obtain ⟨h1, h2⟩ := h.stored o v
    have hl := h.1
    rw [List.set_eq_of_length_le (by omega)] at h1
    obtain ⟨k1, k2⟩ := ownsRow_beyond r (o + 1) _ h1 (by omega)
    refine ⟨k1, ⟨k2.os.trans h2.os, k2.tape.trans h2.tape, k2.output.trans h2.output, Nat.le_trans h2.size k2.size, fun k hk hne => ?_⟩⟩
    exact (k2.block k (Nat.lt_of_lt_of_le hk h2.size) hne).trans (h2.block k hk hne)

theorem grownBy_trans {a b c : World} {row : Option Nat} (h2 : a.grownBy b row) (k2 : b.grownBy c row) : a.grownBy c row :=
  ⟨k2.os.trans h2.os, k2.tape.trans h2.tape, k2.output.trans h2.output, Nat.le_trans h2.size k2.size, fun k hk hne => (k2.block k (Nat.lt_of_lt_of_le hk h2.size) hne).trans (h2.block k hk hne)⟩

/-- The properties' cells lie in other blocks than the row. -/
theorem Props.grown {w w' : World} {L : List Nat} {sf : Nat → Bool} {g : Nat} (h : Props w L sf) (hg : w.grownBy w' (some g)) (hne : g ∉ L) : Props w' L sf := fun p hp =>
  hg.cell (h p hp) (fun e => hne (by simp at e; rwa [e] at hp))

/-- What DeleteFunc gives. -/
def Deleted (w : World) (base : Nat) (L : List Nat) (sf : Nat → Bool) (g cap : Nat) (e : Ending) (w' : World) : Prop :=
  e = .returned (.slice (some ⟨g, 0, none⟩) (L.filter sf).length cap) ∧ w'.ownsRow base 28 1 (.slice (some ⟨g, 0, none⟩) (L.filter sf).length cap) (L.filter sf).length ((L.filter sf).map ptr) ∧ w.grownBy w' (some g)

theorem First.cases {L : List Nat} {sf : Nat → Bool} {e : Ending} (h : First L sf e) :
    (∃ k : Nat, e = .returned (.int .i64 k) ∧ Hid (k < L.length ∧ sf (L.getD k 0) = false ∧ ∀ j, j < k → sf (L.getD j 0) = true)) ∨ (e = .returned (.int .i64 (-1)) ∧ Hid (L.filter sf = L)) := by
  rcases h with ⟨k, h1, h2, h3⟩ | ⟨h1, h2⟩
  · exact .inl ⟨k, h2, h1, h3⟩
  · refine .inr ⟨h1, ?_⟩
    have := filter_take_all sf L L.length (Nat.le_refl _) h2
    rwa [List.take_length] at this

theorem row_cell {w : World} {base g n cap : Nat} {M : List Nat} (h : w.ownsRow base 28 1 (.slice (some ⟨g, 0, none⟩) n cap) n (M.map ptr)) {j : Nat} (hj : j < n) : w.cell? ⟨g, j, none⟩ = some (ptr (M.getD j 0)) := by
  have hl := h.1
  simp at hl
  rw [h.cellAt j (by omega)]
  simp [List.getD, List.getElem?_eq_getElem (show j < M.length by omega)]

end Go.Proofs.Qxb6612497a
