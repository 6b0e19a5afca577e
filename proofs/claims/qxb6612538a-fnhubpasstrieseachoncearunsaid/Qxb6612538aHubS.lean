import Derived.Test.Qxb6612538aHubR
namespace Go.Proofs.Qxb6612538a
open Go.ChangeShapes Go.WideShapes Go.ChangeAt Go.RowKit

/-- What holds between two passes: W waits in v. -/
structure HP (w0 w : World) (D : ND) (P R Gr Ca Ke Wa Ac : Nat) (run came : Int) (kept : Bool) (v : Value) (W : List Nat) : Prop where
  below : Below w0.heap.size w0 w
  hub : Hub w R Gr Ca Ke Wa run came kept v
  ac : ∀ m, m < P → w.cell? ⟨Ac, m, none⟩ = some (.bool (D.acc m))
  acl : Ac < w.heap.size
  ge : w0.heap.size ≤ R ∧ w0.heap.size ≤ Ca ∧ w0.heap.size ≤ Ke ∧ w0.heap.size ≤ Wa ∧ w0.heap.size ≤ Ac
  rows : R ≠ Ca ∧ R ≠ Ke ∧ R ≠ Wa ∧ Ca ≠ Ke ∧ Ca ≠ Wa ∧ Ke ≠ Wa
  acne : Ac ≠ R ∧ Ac ≠ Ca ∧ Ac ≠ Ke ∧ Ac ≠ Wa
  own : w.ownsRow w0.heap.size 3 1 v W.length (ints W)
  apart : ∀ g, v.ownBlock = some g → g ≠ R ∧ g ≠ Ca ∧ g ≠ Ke ∧ g ≠ Wa ∧ g ≠ Ac
  inP : ∀ j, j < W.length → W.getD j 0 < P
  small : W.length ≤ 65536

/-- What a pass by ZZhubPass gives. -/
def HubPost (kp : Keep) (w0 : World) (D : ND) (P R Gr Ca Ke Wa Ac : Nat) (run : Int) (K : Bool) (tk wt : List Nat) (e : Ending) (w' : World) : Prop :=
  ∃ tv v', e = .returned (.tuple #[.bool K, tv]) ∧ HP w0 w' D P R Gr Ca Ke Wa Ac run run K v' wt ∧ NRow w' tv tk ∧
    (∀ g, tv.ownBlock = some g → g < w'.heap.size ∧ g ≠ R ∧ g ≠ Ca ∧ g ≠ Ke ∧ g ≠ Wa ∧ g ≠ Ac ∧ v'.ownBlock ≠ some g) ∧ (∀ k, kp.p k → (k < w'.heap.size ∧ w'.heap[k]? = kp.w.heap[k]?) ∧ v'.ownBlock ≠ some k)

section
variable {w0 w : World} {D : ND} {P R Gr Ca Ke Wa Ac : Nat} {run came : Int} {kept : Bool} {v : Value} {W : List Nat} {p : Nat → Prop}

theorem HP.lt (h : HP w0 w D P R Gr Ca Ke Wa Ac run came kept v W) : R < w.heap.size ∧ Ca < w.heap.size ∧ Ke < w.heap.size ∧ Wa < w.heap.size ∧ Ac < w.heap.size :=
  ⟨World.block_lt_of_cell? _ _ h.hub.g, World.block_lt_of_cell? _ _ h.hub.came, World.block_lt_of_cell? _ _ h.hub.kept, World.block_lt_of_cell? _ _ h.hub.wait, h.acl⟩

theorem HP.cfg (h : HP w0 w D P R Gr Ca Ke Wa Ac run came kept v W) (hp : ∀ k, p k → k < w.heap.size ∧ k ≠ Ca ∧ k ≠ Ke ∧ k ≠ Wa ∧ v.ownBlock ≠ some k) : Cfg ⟨w, p⟩ w0.heap.size R Ca Ke Wa w.heap.size Ac (w.heap.size + 1) := by
  have l := h.lt
  have g := h.ge
  have r := h.rows
  have a := h.acne
  have b := h.below.size
  refine ⟨by omega, by omega, by omega, by omega, by omega, fun k hk => ?_⟩
  have := hp k hk
  exact ⟨this.2.1, this.2.2.1, this.2.2.2.1, by omega⟩

theorem HP.st (h : HP w0 w D P R Gr Ca Ke Wa Ac run came kept v W) (hp : ∀ k, p k → k < w.heap.size ∧ k ≠ Ca ∧ k ≠ Ke ∧ k ≠ Wa ∧ v.ownBlock ≠ some k) :
    ST ⟨w, p⟩ w0 ((w.alloc (.cells #[.slice (some ⟨Ac, 0, none⟩) P P] 43)).alloc (.cells #[.slice none 0 0] 22)) D P R Gr Ca Ke Wa w.heap.size Ac (w.heap.size + 1) w0.heap.size run came kept v W := by
  have l := h.lt
  have hb : Below w.heap.size w ((w.alloc (.cells #[.slice (some ⟨Ac, 0, none⟩) P P] 43)).alloc (.cells #[.slice none 0 0] 22)) := ((Below.refl _ _).alloc (Nat.le_refl _) _).alloc (by simp) _
  refine ⟨⟨h.below.trans (hb.mono h.below.size), h.hub.same (fun k hk => hb.block k (by omega)), by simp [go_sem], fun m hm => cell_later hb (h.ac m hm), by simp; omega, fun k hk => ⟨by have := (hp k hk).1; simp; omega, hb.block k (hp k hk).1⟩⟩,
    h.own.kept (row := none) ⟨hb.os, hb.tape, hb.output, hb.size, fun k hk _ => hb.block k hk⟩ (by cases hv : v.ownBlock <;> simp), fun g hg => ⟨fun ho => ?_, ?_⟩, Nat.le_refl _, by simp [go_sem], by simp [go_sem], h.inP, h.small⟩
  · have hl := (h.own.lt g hg).2
    have ha := h.apart g hg
    unfold OneOf at ho
    rcases ho with e | e | e | e | e | e | e
    · exact ha.1 e
    · exact ha.2.1 e
    · exact ha.2.2.1 e
    · exact ha.2.2.2.1 e
    · omega
    · exact ha.2.2.2.2 e
    · exact (hp g e).2.2.2.2 hg
  · have hl := (h.own.lt g hg).2
    omega

theorem HubPost.of {tk wt : List Nat} {K : Bool} {w' : World} {e : Ending} (h : HP w0 w D P R Gr Ca Ke Wa Ac run came kept v W) (hwt : (∀ j, j < wt.length → wt.getD j 0 < P) ∧ wt.length ≤ 65536) (q : Nat) (tv : Value)
    (hpp : PassPost ⟨w, p⟩ w0 D P R Gr Ca Ke Wa w.heap.size Ac (w.heap.size + 1) w0.heap.size run K tk wt e w') (htv : w'.cell? ⟨w.heap.size + 1, 0, none⟩ = some tv) :
    HubPost ⟨w, p⟩ w0 D P R Gr Ca Ke Wa Ac run K tk wt (.returned (.tuple #[.bool K, tv])) (w'.drewN q) := by
  obtain ⟨_, base, ⟨v', hps, hown, hap⟩, ⟨tv', t1, t2, t3⟩, hlt⟩ := hpp
  rw [htv] at t1
  obtain rfl : tv = tv' := by simpa using t1
  have hps' := hps.drewN q
  have o : ∀ k, k = R ∨ k = Ca ∨ k = Ke ∨ k = Wa ∨ k = Ac → k < base := fun k hk => hlt k (by unfold OneOf; rcases hk with e | e | e | e | e <;> simp [e])
  refine ⟨tv, v', rfl, ⟨hps'.below, hps'.hub, hps'.ac, hps'.acl, h.ge, h.rows, h.acne, hown, fun g hg => ?_, hwt.1, hwt.2⟩, (NRow.of_owns t3).2, fun g hg => ?_, fun k hk => ⟨hps'.keep k hk, fun e => (hap k e).1.1 (.inr (.inr (.inr (.inr (.inr (.inr hk))))))⟩⟩
  · have := (hap g hg).1.1
    unfold OneOf at this
    refine ⟨fun e => this (by simp [e]), fun e => this (by simp [e]), fun e => this (by simp [e]), fun e => this (by simp [e]), fun e => this (by simp [e])⟩
  · have h1 := t3.lt g hg
    have o1 := o R (by simp)
    have o2 := o Ca (by simp)
    have o3 := o Ke (by simp)
    have o4 := o Wa (by simp)
    have o5 := o Ac (by simp)
    refine ⟨h1.2, by omega, by omega, by omega, by omega, by omega, fun e => ?_⟩
    have := (hap g e).2
    omega

set_option maxRecDepth 100000 in
set_option maxHeartbeats 1000000 in
theorem hub21 {tk wt : List Nat} {K : Bool} {n : Nat} {low : Int} {fwd : Bool} (hp : HP w0 w D P R Gr Ca Ke Wa Ac run came kept v W) (hk : ∀ k, p k → k < w.heap.size ∧ k ≠ Ca ∧ k ≠ Ke ∧ k ≠ Wa ∧ v.ownBlock ≠ some k)
    (hwt : (∀ j, j < wt.length → wt.getD j 0 < P) ∧ wt.length ≤ 65536)
    (hcall : ∀ w1 AB Tk, Cfg ⟨w, p⟩ w0.heap.size R Ca Ke Wa AB Ac Tk → ST ⟨w, p⟩ w0 w1 D P R Gr Ca Ke Wa AB Ac Tk w0.heap.size run came kept v W →
      Calls Try.prog 29 #[.pointer (some ⟨R, 0, none⟩), .int .i64 P, .int .i64 0, .int .i64 n, .int .i64 low, .bool fwd, .func (.func 30) #[] #[.pointer (some ⟨AB, 0, none⟩)], .func (.func 31) #[] #[.pointer (some ⟨Tk, 0, none⟩)]] w1
        fun e w' => PassPost ⟨w, p⟩ w0 D P R Gr Ca Ke Wa AB Ac Tk w0.heap.size run K tk wt e w') :
    Calls Try.prog 21 #[.pointer (some ⟨R, 0, none⟩), .int .i64 P, .int .i64 0, .int .i64 n, .int .i64 low, .bool fwd, .slice (some ⟨Ac, 0, none⟩) P P] w
      fun e w' => HubPost ⟨w, p⟩ w0 D P R Gr Ca Ke Wa Ac run K tk wt e w' := by
  have HH : Hid (HP w0 w D P R Gr Ca Ke Wa Ac run came kept v W) := hp
  have HK := (show Hid _ from hk)
  have HW := (show Hid _ from hwt)
  have HC := (show Hid _ from hcall)
  clear hp hk hwt hcall
  go_enter Try.func21, Try.ntmps21
  go_wp2_with fail
  refine (HC.out _ _ _ (HH.out.cfg HK.out) (HH.out.st HK.out)).mono ?_
  intro e w' hpost
  have HPp : Hid (PassPost ⟨w, p⟩ w0 D P R Gr Ca Ke Wa w.heap.size Ac (w.heap.size + 1) w0.heap.size run K tk wt e w') := hpost
  obtain ⟨rfl, base, _, ⟨tv, htv, _⟩, _⟩ := hpost
  go_wp2_with fail
  go_quiet (fail)
  have hfin := (show Hid _ from HubPost.of HH.out HW.out nq tv HPp.out htv)
  clear HPp
  go_wp2_with fail
  go_ret2
  exact hfin.out

/-- ZZsetHubRun. -/
theorem setRun25 (hp : HP w0 w D P R Gr Ca Ke Wa Ac run came kept v W) (r : Int) :
    Calls Try.prog 25 #[.pointer (some ⟨R, 0, none⟩), .int .i64 r] w fun e w' => (e = .returned (.tuple #[]) ∧ w' = w.setCell ⟨R, 2, none⟩ (.int .i64 r)) := by
  have c1 := hp.hub.run
  have c2 := hp.hub.frun
  clear hp
  go_enter Try.func25, Try.ntmps25
  go_wp2_with fail
  go_end0
  exact ⟨rfl, rfl⟩

theorem HP.setRun (hp : HP w0 w D P R Gr Ca Ke Wa Ac run came kept v W) (r : Int) : HP w0 (w.setCell ⟨R, 2, none⟩ (.int .i64 r)) D P R Gr Ca Ke Wa Ac r came kept v W := by
  have c1 := hp.rows
  have c2 := hp.acne
  have u := hp.hub
  have o : ∀ k i x, (k ≠ R ∨ i ≠ 2) → w.cell? ⟨k, i, none⟩ = some x → (w.setCell ⟨R, 2, none⟩ (.int .i64 r)).cell? ⟨k, i, none⟩ = some x := fun k i x hk hx => by
    rw [World.cell?_setCell_other _ _ _ _ (by intro e; injection e; omega)]; exact hx
  refine ⟨hp.below.setCell hp.ge.1 _, ⟨o _ _ _ (by omega) u.g, o _ _ _ (by omega) u.states, World.cell?_setCell_same _ _ _ u.run, by simpa using u.frun, o _ _ _ (by omega) u.camev, o _ _ _ (by omega) u.keptv, o _ _ _ (by omega) u.waitv, o _ _ _ (by omega) u.came, by simpa using u.fcame, o _ _ _ (by omega) u.kept, by simpa using u.fkept, o _ _ _ (by omega) u.wait, by simpa using u.fwait⟩,
    fun m hm => o _ _ _ (by omega) (hp.ac m hm), by simpa using hp.acl, hp.ge, hp.rows, hp.acne, hp.own.kept (grown_setCell w R 2 _) (.inr (fun e => (hp.apart R e).1 rfl)), hp.apart, hp.inP, hp.small⟩
end

end Go.Proofs.Qxb6612538a
