import Derived.Test.Qxb6612538aHubN
namespace Go.Proofs.Qxb6612538a
open Go.ChangeShapes Go.WideShapes Go.ChangeAt Go.RowKit

/-! ### 'append' in place, ahead of a row's end: the row's cell is set -/
theorem run_append_set {P : Program} (w : World) (base : Nat) (t ty e : TypeId) (i0 : TypeInfo) (ht : P.underlying t = some (.slice e)) (hi : P.info? e = some i0) (hsize : i0.size = 1)
    (g n i cap : Nat) (xs : List Value) (hown : w.ownsRow base e 1 (.slice (some ⟨g, 0, none⟩) n cap) n xs) (hin : i < n) (a : Addr) (c : Nat) (u : Value) (hu : w.cell? a = some u) (h1 : u.oneCell' = true) :
    ∃ w', (Builtin.append_ #[t, t] ty #[.slice (some ⟨g, 0, none⟩) i cap, .slice (some a) 1 c]).run P w = .ok (.slice (some ⟨g, 0, none⟩) (i + 1) cap) w' ∧ w'.ownsRow base e 1 (.slice (some ⟨g, 0, none⟩) n cap) n (xs.set i u) ∧ w.grownBy w' (some g) := by
  rcases hown.2 with ⟨h', _⟩ | ⟨g', cap', cur, h', hb, hg, hnc, hcm, hcs, htake⟩
  · simp at h'
  · simp only [Value.slice.injEq, Option.some.injEq, Addr.mk.injEq, and_true, true_and] at h'
    obtain ⟨rfl, rfl⟩ := h'
    have hr := run_append_room (P := P) w t ty e i0 ht hi g i cap cur hg a 1 c [u] (by rw [hsize]; rfl) (fun j v hj => by
      match j, hj with
      | 0, hj =>
        simp only [List.getElem?_cons_zero, Option.some.injEq] at hj
        subst hj
        have : a.add 0 = a := by unfold Addr.add; split <;> simp_all
        rw [this]; exact hu) (fun v hv => by simp at hv; subst hv; exact h1) (by omega) (by rw [hsize]; simp; omega)
    have hset : cur.toList.take (i * i0.size) ++ [u] ++ cur.toList.drop (i * i0.size + [u].length) = cur.toList.set i u := by
      rw [hsize, Nat.mul_one, List.set_eq_take_append_cons_drop, if_pos (by simp; omega)]
      simp
    rw [hset] at hr
    refine ⟨_, hr, ⟨by simpa using hown.1, .inr ⟨g, cap, _, rfl, hb, setRow_heap w g _ _ e _ hg, hnc, hcm, ?_, ?_⟩⟩, ⟨rfl, rfl, rfl, by simp [World.setRow], fun k _ hk => setRow_other w g k _ (fun e => hk (by simp [e]))⟩⟩
    · simp; omega
    · rw [← htake]
      simp only [List.take_set]

theorem wpList_append_set {P : Program} (w : World) {ops : Array Oper} {rest : List Oper} {o : Oper} {a : Act} {Q : Exit → Act → World → Prop}
    (hgd : o.guard = none) (s x : Operand) (t : TypeId) (hop : o.op = Op.call { callee := Callee.builtin Builtin.append, args := #[s, x], argTypes := #[t, t] })
    (base : Nat) (e : TypeId) (i0 : TypeInfo) (ht : P.underlying t = some (.slice e)) (hi : P.info? e = some i0) (hsize : i0.size = 1)
    (g n i cap : Nat) (xs : List Value) (hs : a.eval s = .slice (some ⟨g, 0, none⟩) i cap) (hown : w.ownsRow base e 1 (.slice (some ⟨g, 0, none⟩) n cap) n xs) (hin : i < n) (ad : Addr) (c : Nat) (u : Value) (hx : a.eval x = .slice (some ad) 1 c) (hu : w.cell? ad = some u) (h1 : u.oneCell' = true)
    (hK : ∀ w', w'.ownsRow base e 1 (.slice (some ⟨g, 0, none⟩) n cap) n (xs.set i u) → w.grownBy w' (some g) → wpList P ops Q rest (a.put o.dst (.slice (some ⟨g, 0, none⟩) (i + 1) cap)) w') :
    wpList P ops Q (o :: rest) a w := by
  refine wpList_plain hgd fun K hK' => ?_
  obtain ⟨w', hrun, r1, r2⟩ := run_append_set (P := P) w base t o.type e i0 ht hi hsize g n i cap xs hown hin ad c u hu h1
  unfold Oper.wp
  simp [execOp, hop, resolve, invoke, builtin, hs, hx, hrun, Result.andThen]
  exact hK' _ _ (hK w' r1 r2)

/-! ### The two closures that the law hands in -/
theorem keep30 {w : World} {AB Ac P m : Nat} {z : Bool} (hm : m < P) (h1 : w.cell? ⟨AB, 0, none⟩ = some (.slice (some ⟨Ac, 0, none⟩) P P)) (h2 : w.cell? ⟨Ac, m, none⟩ = some (.bool z)) :
    Calls Try.prog 30 #[.int .i64 m, .pointer (some ⟨AB, 0, none⟩)] w fun e w' => e = .returned (.bool z) ∧ w' = w := by
  go_enter Try.func30, Try.ntmps30
  go_wp2_with fail
  go_ret
  exact ⟨rfl, rfl⟩

/-- Below 'base' nothing has turned but block x. -/
structure But (base x : Nat) (w w' : World) : Prop where
  os : w'.os = w.os
  tape : w'.tape = w.tape
  output : w'.output = w.output
  size : w.heap.size ≤ w'.heap.size
  block : ∀ k, k < base → k ≠ x → w'.heap[k]? = w.heap[k]?

/-- What 'take' does: one number more. -/
def TakePost (w : World) (base Tk : Nat) (t : List Nat) (m : Nat) (e : Ending) (w' : World) : Prop :=
  e = .returned (.tuple #[]) ∧ (∃ v', w'.cell? ⟨Tk, 0, none⟩ = some v' ∧ w'.ownsRow base 3 1 v' (t.length + 1) (ints (t ++ [m]))) ∧ w'.frozen? ⟨Tk, 0, none⟩ = false ∧ But base Tk w w'

set_option maxHeartbeats 1000000 in
theorem take31 {w : World} {base Tk : Nat} {v : Value} {t : List Nat} (m : Nat) (ht : t.length ≤ 1048576) (hTk : Tk < base) (hb : base ≤ w.heap.size) (h1 : w.cell? ⟨Tk, 0, none⟩ = some v) (hf : w.frozen? ⟨Tk, 0, none⟩ = false) (h2 : w.ownsRow base 3 1 v t.length (ints t)) :
    Calls Try.prog 31 #[.int .i64 m, .pointer (some ⟨Tk, 0, none⟩)] w fun e w' => TakePost w base Tk t m e w' := by
  obtain ⟨i0, hi, hz0, hz1, hz2⟩ := info_parts info3
  have HW : Hid (w.ownsRow base 3 1 v t.length (ints t)) := h2
  obtain ⟨-, a, c, rfl, -⟩ := NRow.of_owns h2
  have HF : Hid (w.frozen? ⟨Tk, 0, none⟩ = false) := hf
  have H1 := (show Hid _ from h1)
  clear h2
  obtain ⟨n, hn⟩ : ∃ n, n = t.length := ⟨_, rfl⟩
  rw [← hn] at HW H1 h1 ht
  have HN : Hid (n = t.length) := hn
  clear hn
  go_enter Try.func31, Try.ntmps31
  go_wp2_with (at_builtin; refine wpList_append_own _ rfl _ _ 22 rfl base 3 i0 (.int .i64 0) 1 8 Try.underlying22 hi hz0 hz1 hz2 rfl (by decide) _ n _ rfl (HW.out.alloc _) ⟨w.heap.size, 0, none⟩ 1 1 [.int .i64 (m : Int)] rfl rfl (cell_one_new _ _ _) (fun u hu => by simp at hu; subst hu; rfl) (by unfold maxLen; omega) (by omega) (by simp; omega) ?_)
  intro v' w1 hown hgrow hnil
  have hne : (some Tk) ≠ (Value.slice a n c).ownBlock := fun e => by have := (HW.out.lt Tk e.symm).1; omega
  have hlt : Tk < w.heap.size := by omega
  have hga := World.grownBy_alloc w (.cells #[.int .i64 (m : Int)] 3) none
  have c1 : w1.cell? ⟨Tk, 0, none⟩ = some (.slice a n c) := hgrow.cell (hga.cell h1 (by simp)) hne
  have f1 : w1.frozen? ⟨Tk, 0, none⟩ = false := (hgrow.frozen_far _ (by simp; omega) hne).trans ((hga.frozen_far _ hlt (by simp)).trans HF.out)
  have HO : Hid (w1.ownsRow base 3 1 v' (n + 1) (ints (t ++ [m]))) := by show World.ownsRow _ _ _ _ _ _ _; rw [← ints_snoc]; exact hown
  have hblk : ∀ k, k < base → k ≠ Tk → w1.heap[k]? = w.heap[k]? := fun k hk _ =>
    (hgrow.block k (by simp; omega) (fun e => by have := (HW.out.lt k e.symm).1; omega)).trans (hga.block k (by omega) (by simp))
  have HG : Hid (But base Tk w w1) := ⟨hgrow.os, hgrow.tape, hgrow.output, by have := hgrow.size; simp at this; omega, hblk⟩
  obtain ⟨a', c', hv'⟩ := owns_form hown
  subst hv'
  have hfin : Hid (TakePost w base Tk t m (.returned (.tuple #[])) (w1.setCell ⟨Tk, 0, none⟩ (.slice a' (n + 1) c'))) := by
    refine ⟨rfl, ⟨_, World.cell?_setCell_same _ _ _ c1, ?_⟩, ?_, ⟨HG.out.os, HG.out.tape, HG.out.output, by simpa using HG.out.size, fun k hk hkn => ?_⟩⟩
    · rw [← HN.out]
      exact ownsRow_setCell_below HO.out (by simpa using hTk) _
    · rw [← f1]; exact World.frozen?_setCell _ _ _ _
    · rw [heap_setCell_other w1 ⟨Tk, 0, none⟩ k _ hkn]
      exact HG.out.block k hk hkn
  clear hown hgrow hnil hga HO HG h1 H1 hf
  go_wp2_with fail
  go_end0
  exact hfin.out

end Go.Proofs.Qxb6612538a
