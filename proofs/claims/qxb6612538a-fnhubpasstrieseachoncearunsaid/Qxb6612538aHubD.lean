import Derived.Test.Qxb6612538aHubC
namespace Go.Proofs.Qxb6612538a
open Go.ChangeShapes Go.WideShapes Go.ChangeAt Go.RowKit

section
variable {w : World} {Gr st ps pd : Nat} {sa : Option Addr} {sc P M : Nat} {T : Nat → List Nat} {fr to : Nat → Nat} {p0 : Nat} {pe : List Nat}

/-- What 'predAbove' gives at the hub: the numbers of the steps into it, from place i on. -/
def PredPost (w : World) (fr : Nat → Nat) (pe : List Nat) (pd p0 : Nat) (t : Int) (e : Ending) (w' : World) : Prop :=
  ∃ a c i found, e = .returned (.slice a (pe.length - i) c) ∧ Place (fun j => fr (pe.getD j 0)) pe.length t i found ∧ (i < pe.length → a = some ⟨pd, p0 + i, none⟩) ∧ Below w.heap.size w w'

theorem PredPost.mk' {w' : World} {t : Int} {i n : Nat} {found : Bool} {a : Option Addr} {c : Nat} (hn : n = pe.length - i) (hp : Place (fun j => fr (pe.getD j 0)) pe.length t i found) (ha : i < pe.length → a = some ⟨pd, p0 + i, none⟩) (hB : Below w.heap.size w w') :
    PredPost w fr pe pd p0 t (.returned (.slice a n c)) w' := ⟨a, c, i, found, by rw [hn], hp, ha, hB⟩

set_option maxHeartbeats 1000000 in
theorem pred34 (h : Graph w Gr st ps pd sa sc P M T fr to p0 pe) (t : Int) :
    Calls Try.prog 34 #[.pointer (some ⟨Gr, 0, none⟩), .int .i64 P, .int .i64 t] w fun e w' => PredPost w fr pe pd p0 t e w' := by
  have HG : Hid (Graph w Gr st ps pd sa sc P M T fr to p0 pe) := h
  have c1 := h.pred
  have c2 := h.pstart
  have c3 := h.pstart0
  have c4 := h.pstart1
  have hsm := h.small
  have hpf := h.pfits
  have l1 := World.block_lt_of_cell? _ _ c1
  have l3 := World.block_lt_of_cell? _ _ c3
  simp only at l1 l3
  clear h
  obtain ⟨n, hN⟩ : ∃ n, n = pe.length := ⟨_, rfl⟩
  have HNN : Hid (n = pe.length) := hN
  rw [← hN] at hpf c4
  rw [show ((p0 + n : Nat) : Int) = (p0 : Int) + (n : Int) by omega] at c4
  clear hN
  have u1 : (P : Int) < (P : Int) + 2 := by omega
  have u2 : (P : Int) + 1 < (P : Int) + 2 := by omega
  by_cases hn0 : n = 0
  · subst hn0
    go_enter Try.func34, Try.ntmps34
    go_wp2_with fail
    go_quiet (fail)
    go_wp2_with fail
    all_goals
      refine (bsf38_empty _ _ (fun j => fr (pe.getD j 0)) _ _).mono ?_
      rintro e w2 ⟨i, found, rfl, hp, hB2⟩
      have hi := hp.le
      obtain rfl : i = 0 := by omega
      have HP : Hid (Place (fun j => fr (pe.getD j 0)) pe.length t 0 found) := by rw [show pe.length = 0 from HNN.out.symm]; exact hp
      have HB2 : Hid (Below w.heap.size w w2) := (below_drewN ((Below.refl _ _).alloc (Nat.le_refl _) _) _).trans (hB2.mono (by simp))
      clear hp hB2
      go_wp2_with fail
      all_goals
        go_ret
        exact PredPost.mk' (by rw [← HNN.out]) HP.out (fun h => by rw [← HNN.out] at h; omega) HB2.out
  · have hMp : ¬ M = p0 := by omega
    have HR : Hid (IRow w pd p0 n (fun j => pe.getD j 0)) := fun j hj => HG.out.preds j (by rw [← HNN.out]; exact hj)
    have HF : Hid (∀ j, j < n → pe.getD j 0 < M) := fun j hj => HG.out.pin j (by rw [← HNN.out]; exact hj)
    have HS : Hid (∀ i j, i < j → j < n → fr (pe.getD i 0) < fr (pe.getD j 0)) := fun i j h1 h2 => HG.out.psorted i j h1 (by rw [← HNN.out]; exact h2)
    go_enter Try.func34, Try.ntmps34
    go_wp2_with fail
    go_quiet (fail)
    go_wp2_with fail
    have hB1 : Below w.heap.size w ((w.alloc (Obj.cells #[Value.pointer (some ⟨Gr, 0, none⟩)] 38)).drewN nq) := below_drewN ((Below.refl _ _).alloc (Nat.le_refl _) _) _
    have HX : Hid (((w.alloc (Obj.cells #[Value.pointer (some ⟨Gr, 0, none⟩)] 38)).drewN nq).cell? ⟨w.heap.size, 0, none⟩ = some (.pointer (some ⟨Gr, 0, none⟩))) := by
      show World.cell? (w.alloc _) _ = _
      rw [World.cell?_alloc_at _ _ _ _ rfl]; rfl
    have HG1 := (show Hid _ from HG.out.later hB1)
    have HR1 : Hid (IRow ((w.alloc (Obj.cells #[Value.pointer (some ⟨Gr, 0, none⟩)] 38)).drewN nq) pd p0 n (fun j => pe.getD j 0)) := fun j hj => cell_later hB1 (HR.out j hj)
    have HB1 := (show Hid _ from hB1)
    clear hB1 c1 c2 c3 c4
    generalize (w.alloc (Obj.cells #[Value.pointer (some ⟨Gr, 0, none⟩)] 38)).drewN nq = w1 at HG1 HR1 HB1 HX ⊢
    refine (bsf38 HG1.out _ HX.out pd p0 n _ _ t (by omega) HF.out HS.out HR1.out).mono ?_
    rintro e w2 ⟨i, found, rfl, hp, hB2⟩
    have hi := hp.le
    have HP : Hid (Place (fun j => fr (pe.getD j 0)) pe.length t i found) := by rw [← HNN.out]; exact hp
    have HB2 : Hid (Below w.heap.size w w2) := HB1.out.trans (hB2.mono HB1.out.size)
    clear hp hB2 HG HG1 HR HR1 HF HS HX HB1
    go_wp2_with fail
    all_goals
      go_ret
      exact PredPost.mk' (by rw [← HNN.out]) HP.out (fun h => by first | rfl | (rw [← HNN.out] at h; omega)) HB2.out
end

end Go.Proofs.Qxb6612538a
