import Derived.Test.Qxb6612538aHubL
import Derived.BigRegion
namespace Go.Proofs.Qxb6612538a
open Go.ChangeShapes Go.WideShapes Go.ChangeAt Go.RowKit

/-- The graph's struct. -/
structure GrSt (w : World) (Gr P : Nat) (v0 v1 v2 v3 : Value) : Prop where
  c0 : w.cell? ⟨Gr, 0, none⟩ = some v0
  c1 : w.cell? ⟨Gr, 1, none⟩ = some v1
  c2 : w.cell? ⟨Gr, 2, none⟩ = some v2
  c3 : w.cell? ⟨Gr, 3, none⟩ = some v3
  c4 : w.cell? ⟨Gr, 4, none⟩ = some (.int .i64 P)
  kinds : ∀ k, k < 5 → w.cell? ⟨Gr, 5 + k, none⟩ = some (.int .i64 P)
  kind5 : w.cell? ⟨Gr, 10, none⟩ = some (.int .i64 ((P : Int) + 1))

def GrPost (w : World) (P : Nat) (v0 v1 v2 v3 : Value) (e : Ending) (w' : World) : Prop := ∃ Gr, e = .returned (.pointer (some ⟨Gr, 0, none⟩)) ∧ GrSt w' Gr P v0 v1 v2 v3 ∧ Below w.heap.size w w' ∧ w.heap.size ≤ Gr

set_option maxHeartbeats 1000000 in
theorem graph18 (a0 a1 a2 a3 : Option Addr) (n0 n1 n2 n3 k0 k1 k2 k3 P : Nat) (w : World) :
    Calls Try.prog 18 #[.slice a0 n0 k0, .slice a1 n1 k1, .slice a2 n2 k2, .slice a3 n3 k3, .int .i64 P, .agg #[.int .i64 P, .int .i64 P, .int .i64 P, .int .i64 P, .int .i64 P, .int .i64 ((P : Int) + 1)]] w fun e w' => GrPost w P (.slice a0 n0 k0) (.slice a1 n1 k1) (.slice a2 n2 k2) (.slice a3 n3 k3) e w' := by
  go_enter Try.func18, Try.ntmps18
  go_wp2_with fail
  go_ret
  refine ⟨w.heap.size + 1, by simp, ⟨by simp [go_sem], by simp [go_sem], by simp [go_sem], by simp [go_sem], by simp [go_sem], fun k hk => ?_, by simp [go_sem]⟩, ((Below.refl _ _).alloc (Nat.le_refl _) _).alloc (by simp) _, by omega⟩
  match k, hk with
  | 0, _ => simp [go_sem]
  | 1, _ => simp [go_sem]
  | 2, _ => simp [go_sem]
  | 3, _ => simp [go_sem]
  | 4, _ => simp [go_sem]

theorem mk22 (w : World) : (Instr.makeSlice 22 (.int .i64 1) (.int .i64 1)).run Try.prog w = .ok (.slice (some ⟨w.heap.size, 0, none⟩) 1 1) (w.alloc (.cells #[.int .i64 0] 3)) := by kernel_rfl
theorem mk43 (w : World) : (Instr.makeSlice 43 (.int .i64 1) (.int .i64 1)).run Try.prog w = .ok (.slice (some ⟨w.heap.size, 0, none⟩) 1 1) (w.alloc (.cells #[.bool false] 4)) := by kernel_rfl
theorem mk36 (w : World) : (Instr.makeSlice 36 (.int .i64 1) (.int .i64 1)).run Try.prog w = .ok (.slice (some ⟨w.heap.size, 0, none⟩) 1 1) (w.alloc (.cells #[.slice none 0 0] 22)) := by kernel_rfl

/-- The runs' struct: Ca, Ke, Wa the three rows of one cell. -/
structure Hub (w : World) (R Gr Ca Ke Wa : Nat) (run came : Int) (kept : Bool) (v : Value) : Prop where
  g : w.cell? ⟨R, 0, none⟩ = some (.pointer (some ⟨Gr, 0, none⟩))
  states : w.cell? ⟨R, 1, none⟩ = some (.int .i64 1)
  run : w.cell? ⟨R, 2, none⟩ = some (.int .i64 run)
  frun : w.frozen? ⟨R, 2, none⟩ = false
  camev : w.cell? ⟨R, 3, none⟩ = some (.slice (some ⟨Ca, 0, none⟩) 1 1)
  keptv : w.cell? ⟨R, 4, none⟩ = some (.slice (some ⟨Ke, 0, none⟩) 1 1)
  waitv : w.cell? ⟨R, 5, none⟩ = some (.slice (some ⟨Wa, 0, none⟩) 1 1)
  came : w.cell? ⟨Ca, 0, none⟩ = some (.int .i64 came)
  fcame : w.frozen? ⟨Ca, 0, none⟩ = false
  kept : w.cell? ⟨Ke, 0, none⟩ = some (.bool kept)
  fkept : w.frozen? ⟨Ke, 0, none⟩ = false
  wait : w.cell? ⟨Wa, 0, none⟩ = some v
  fwait : w.frozen? ⟨Wa, 0, none⟩ = false

def RunsPost (w : World) (Gr : Nat) (e : Ending) (w' : World) : Prop :=
  ∃ R Ca Ke Wa, e = .returned (.pointer (some ⟨R, 0, none⟩)) ∧ Hub w' R Gr Ca Ke Wa 1 0 false (.slice none 0 0) ∧ Below w.heap.size w w' ∧ w.heap.size ≤ R ∧ w.heap.size ≤ Ca ∧ w.heap.size ≤ Ke ∧ w.heap.size ≤ Wa ∧ R ≠ Ca ∧ R ≠ Ke ∧ R ≠ Wa ∧ Ca ≠ Ke ∧ Ca ≠ Wa ∧ Ke ≠ Wa

theorem RunsPost.drew {w W : World} {Gr : Nat} {e : Ending} (h : RunsPost w Gr e W) : RunsPost w Gr e W.drew := by
  obtain ⟨R, Ca, Ke, Wa, h1, h2, h3, h4⟩ := h
  exact ⟨R, Ca, Ke, Wa, h1, ⟨h2.g, h2.states, h2.run, h2.frun, h2.camev, h2.keptv, h2.waitv, h2.came, h2.fcame, h2.kept, h2.fkept, h2.wait, h2.fwait⟩, h3.drew, h4⟩

/-- Three rows of one cell and the struct, each a new block. -/
theorem RunsPost.of {w W : World} {Gr : Nat} (Ca Ke Wa R : Nat) (hs : w.heap.size ≤ Ca ∧ w.heap.size ≤ Ke ∧ w.heap.size ≤ Wa ∧ w.heap.size ≤ R ∧ R ≠ Ca ∧ R ≠ Ke ∧ R ≠ Wa ∧ Ca ≠ Ke ∧ Ca ≠ Wa ∧ Ke ≠ Wa)
    (hR : W.heap[R]? = some (.cells #[.pointer (some ⟨Gr, 0, none⟩), .int .i64 1, .int .i64 1, .slice (some ⟨Ca, 0, none⟩) 1 1, .slice (some ⟨Ke, 0, none⟩) 1 1, .slice (some ⟨Wa, 0, none⟩) 1 1] 61))
    (hC : W.heap[Ca]? = some (.cells #[.int .i64 0] 3)) (hK : W.heap[Ke]? = some (.cells #[.bool false] 4)) (hW : W.heap[Wa]? = some (.cells #[.slice none 0 0] 22)) (hB : Below w.heap.size w W) :
    RunsPost w Gr (.returned (.pointer (some ⟨R, 0, none⟩))) W := by
  obtain ⟨a1, a2, a3, a4, b1, b2, b3, b4, b5, b6⟩ := hs
  refine ⟨R, Ca, Ke, Wa, rfl, ⟨?_, ?_, ?_, frozen_of_row W R 2 _ 61 hR, ?_, ?_, ?_, ?_, frozen_of_row W Ca 0 _ 3 hC, ?_, frozen_of_row W Ke 0 _ 4 hK, ?_, frozen_of_row W Wa 0 _ 22 hW⟩, hB, a4, a1, a2, a3, b1, b2, b3, b4, b5, b6⟩
  all_goals first | (rw [cell_of_row W R _ _ 61 (0, 0) hR]; rfl) | (rw [cell_of_row W Ca _ _ 3 (0, 0) hC]; rfl) | (rw [cell_of_row W Ke _ _ 4 (0, 0) hK]; rfl) | (rw [cell_of_row W Wa _ _ 22 (0, 0) hW]; rfl)

theorem blocks4 (w : World) (a b c d : Obj) : ((((w.alloc a).alloc b).alloc c).alloc d).heap[w.heap.size]? = some a ∧ ((((w.alloc a).alloc b).alloc c).alloc d).heap[w.heap.size + 1]? = some b ∧ ((((w.alloc a).alloc b).alloc c).alloc d).heap[w.heap.size + 1 + 1]? = some c ∧
    ((((w.alloc a).alloc b).alloc c).alloc d).heap[w.heap.size + 1 + 1 + 1]? = some d ∧ Below w.heap.size w ((((w.alloc a).alloc b).alloc c).alloc d) := by
  refine ⟨?_, ?_, ?_, ?_, ((((Below.refl _ _).alloc (Nat.le_refl _) _).alloc (by simp) _).alloc (by simp; omega) _).alloc (by simp; omega) _⟩
  all_goals
    show ((((w.heap.push a).push b).push c).push d)[_]? = _
    simp only [Array.getElem?_push, Array.size_push]
  · rw [if_neg (by omega), if_neg (by omega), if_neg (by omega), if_pos trivial]
  · rw [if_neg (by omega), if_neg (by omega), if_pos trivial]
  · rw [if_neg (by omega), if_pos trivial]
  · rw [if_pos trivial]

set_option maxHeartbeats 2000000 in
theorem runs19 (Gr : Nat) (w : World) :
    Calls Try.prog 19 #[.pointer (some ⟨Gr, 0, none⟩), .int .i64 1, .int .i64 1, .int .i64 1] w fun e w' => RunsPost w Gr e w' := by
  have h1 := mk22
  have h2 := mk43
  have h3 := mk36
  go_enter Try.func19, Try.ntmps19
  go_wp2_with fail
  go_region
  all_goals go_wp2_with fail
  all_goals go_ret
  all_goals refine RunsPost.drew ?_
  all_goals first
    | exact RunsPost.of w.heap.size (w.heap.size + 1) (w.heap.size + 1 + 1) (w.heap.size + 1 + 1 + 1) (by omega) (blocks4 w _ _ _ _).2.2.2.1 (blocks4 w _ _ _ _).1 (blocks4 w _ _ _ _).2.1 (blocks4 w _ _ _ _).2.2.1 (blocks4 w _ _ _ _).2.2.2.2
    | exact RunsPost.of w.heap.size (w.heap.size + 1 + 1) (w.heap.size + 1) (w.heap.size + 1 + 1 + 1) (by omega) (blocks4 w _ _ _ _).2.2.2.1 (blocks4 w _ _ _ _).1 (blocks4 w _ _ _ _).2.2.1 (blocks4 w _ _ _ _).2.1 (blocks4 w _ _ _ _).2.2.2.2
    | exact RunsPost.of (w.heap.size + 1) w.heap.size (w.heap.size + 1 + 1) (w.heap.size + 1 + 1 + 1) (by omega) (blocks4 w _ _ _ _).2.2.2.1 (blocks4 w _ _ _ _).2.1 (blocks4 w _ _ _ _).1 (blocks4 w _ _ _ _).2.2.1 (blocks4 w _ _ _ _).2.2.2.2
    | exact RunsPost.of (w.heap.size + 1) (w.heap.size + 1 + 1) w.heap.size (w.heap.size + 1 + 1 + 1) (by omega) (blocks4 w _ _ _ _).2.2.2.1 (blocks4 w _ _ _ _).2.1 (blocks4 w _ _ _ _).2.2.1 (blocks4 w _ _ _ _).1 (blocks4 w _ _ _ _).2.2.2.2
    | exact RunsPost.of (w.heap.size + 1 + 1) w.heap.size (w.heap.size + 1) (w.heap.size + 1 + 1 + 1) (by omega) (blocks4 w _ _ _ _).2.2.2.1 (blocks4 w _ _ _ _).2.2.1 (blocks4 w _ _ _ _).1 (blocks4 w _ _ _ _).2.1 (blocks4 w _ _ _ _).2.2.2.2
    | exact RunsPost.of (w.heap.size + 1 + 1) (w.heap.size + 1) w.heap.size (w.heap.size + 1 + 1 + 1) (by omega) (blocks4 w _ _ _ _).2.2.2.1 (blocks4 w _ _ _ _).2.2.1 (blocks4 w _ _ _ _).2.1 (blocks4 w _ _ _ _).1 (blocks4 w _ _ _ _).2.2.2.2

end Go.Proofs.Qxb6612538a
