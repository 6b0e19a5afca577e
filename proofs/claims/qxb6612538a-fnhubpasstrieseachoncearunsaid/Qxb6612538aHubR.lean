import Derived.Test.Qxb6612538aHubP
namespace Go.Proofs.Qxb6612538a
open Go.ChangeShapes Go.WideShapes Go.ChangeAt Go.RowKit

/-- append under a name that the walk does not lay open: its run is given ahead, by an equation. -/
def app_ := Builtin.append_
theorem builtin_app (ats : Array TypeId) (ty : TypeId) (cs : Array Bool) (args : Array Value) : builtin .append ats ty cs args = (do pure (.value (← app_ ats ty args))) := rfl

/-- The nodes beyond the hub, from low on, as the graph's rows give them. -/
def candL (T : Nat → List Nat) (fr : Nat → Nat) (pe : List Nat) (P : Nat) (fwd : Bool) (low : Int) : List Nat := (if fwd then T P else pe.map fr).filter fun m => decide (low ≤ (m : Int))

/-- What a pass gives in a fresh run. -/
def FreshPost (kp : Keep) (w0 : World) (D : ND) (P R Gr Ca Ke Wa AB Ac Tk bq : Nat) (run : Int) (T : Nat → List Nat) (fr : Nat → Nat) (pe : List Nat) (fwd : Bool) (n : Nat) (low : Int) (e : Ending) (w' : World) : Prop :=
  ∃ (W : List Nat) (k0 : Bool), Hid (k0 = false ∧ W = candL T fr pe P fwd low) ∧ PassPost kp w0 D P R Gr Ca Ke Wa AB Ac Tk bq run (k0 || W.any D.acc) (W.filter fun m => D.acc m && jb T fwd n m) (W.filter fun m => D.acc m && !jb T fwd n m) e w'

theorem filter_place {L : List Nat} {t : Int} {i : Nat} {found : Bool} (h : Place (fun j => L.getD j 0) L.length t i found) : L.filter (fun m : Nat => decide (t ≤ (m : Int))) = L.drop i := by
  have e : L.filter (fun m : Nat => decide (t ≤ (m : Int))) = (L.take i ++ L.drop i).filter (fun m : Nat => decide (t ≤ (m : Int))) := by rw [List.take_append_drop]
  rw [e, List.filter_append]
  have h1 : (L.take i).filter (fun m : Nat => decide (t ≤ (m : Int))) = [] := by
    rw [List.filter_eq_nil_iff]
    intro a ha
    obtain ⟨j, hj, rfl⟩ := List.mem_iff_getElem.1 ha
    have hj' : j < i ∧ j < L.length := by simp at hj; omega
    have := h.low j hj'.1
    simp only [List.getD, List.getElem?_eq_getElem hj'.2, Option.getD_some] at this
    simp
    omega
  have h2 : (L.drop i).filter (fun m : Nat => decide (t ≤ (m : Int))) = L.drop i := by
    rw [List.filter_eq_self]
    intro a ha
    obtain ⟨j, hj, rfl⟩ := List.mem_iff_getElem.1 ha
    have hj' : i + j < L.length := by simp at hj; omega
    have := h.high (i + j) (by omega) hj'
    simp only [List.getD, List.getElem?_eq_getElem hj', Option.getD_some] at this
    simp
    omega
  rw [h1, h2]
  rfl

theorem place_map {fr : Nat → Nat} {pe : List Nat} {t : Int} {i : Nat} {found : Bool} (h : Place (fun j => fr (pe.getD j 0)) pe.length t i found) : Place (fun j => (pe.map fr).getD j 0) (pe.map fr).length t i found := by
  have e : ∀ j, j < pe.length → (pe.map fr).getD j 0 = fr (pe.getD j 0) := fun j hj => by simp [List.getD, List.getElem?_eq_getElem hj]
  refine ⟨by simpa using h.le, fun j hj => ?_, fun j h1 h2 => ?_, ?_⟩
  · have := h.low j hj
    simp only [e j (by have := h.le; omega)]
    exact this
  · have hj : j < pe.length := by simpa using h2
    simp only [e j hj]
    exact h.high j h1 hj
  · rw [h.hit]
    constructor
    · rintro ⟨h1, h2⟩
      exact ⟨by simpa using h1, by simp only [e i h1]; exact h2⟩
    · rintro ⟨h1, h2⟩
      have hi : i < pe.length := by simpa using h1
      simp only [e i hi] at h2
      exact ⟨hi, h2⟩

theorem candL_fwd {T : Nat → List Nat} {fr : Nat → Nat} {pe : List Nat} {P : Nat} {low : Int} {i : Nat} {found : Bool} (h : Place (fun j => (T P).getD j 0) (T P).length low i found) : (T P).drop i = candL T fr pe P true low := by
  unfold candL
  rw [if_pos rfl, filter_place h]
theorem candL_bwd {T : Nat → List Nat} {fr : Nat → Nat} {pe : List Nat} {P : Nat} {low : Int} {i : Nat} {found : Bool} (h : Place (fun j => fr (pe.getD j 0)) pe.length low i found) : (pe.drop i).map fr = candL T fr pe P false low := by
  unfold candL
  rw [if_neg (by simp), filter_place (place_map h), List.map_drop]

section
variable {kp : Keep} {w0 w : World} {D : ND} {P R Gr Ca Ke Wa AB Ac Tk bq : Nat} {run came : Int} {kept : Bool} {v : Value} {W : List Nat}

theorem ST.setCK (hc : Cfg kp w0.heap.size R Ca Ke Wa AB Ac Tk) (h : ST kp w0 w D P R Gr Ca Ke Wa AB Ac Tk bq run came kept v W) : ST kp w0 ((w.setCell ⟨Ca, 0, none⟩ (.int .i64 run)).setCell ⟨Ke, 0, none⟩ (.bool false)) D P R Gr Ca Ke Wa AB Ac Tk bq run run false v W := by
  have ho : ∀ g, OneOf kp R Ca Ke Wa AB Ac g → v.ownBlock ≠ some g := fun g hg e => (h.apart g e).1 hg
  have t := hc.tk
  refine ⟨(h.ps.setCame hc run).setKept hc false, (h.own.kept (grown_setCell w Ca 0 _) (.inr (ho Ca (by unfold OneOf; simp)))).kept (grown_setCell _ Ke 0 _) (.inr (ho Ke (by unfold OneOf; simp))), h.apart, h.bq, ?_, by simpa using h.tk2, h.inP, h.small⟩
  rw [World.cell?_setCell_other _ _ _ _ (by intro e; injection e; omega), World.cell?_setCell_other _ _ _ _ (by intro e; injection e; omega)]
  exact h.tk1

theorem ST.reset (hc : Cfg kp w0.heap.size R Ca Ke Wa AB Ac Tk) (h : ST kp w0 w D P R Gr Ca Ke Wa AB Ac Tk bq run came kept v W) {v' : Value} (hv : (v' = .slice none 0 0) ∨ ∃ Q m cap, v = .slice (some ⟨Q, 0, none⟩) m cap ∧ v' = .slice (some ⟨Q, 0, none⟩) 0 cap) : ST kp w0 (w.setCell ⟨Wa, 0, none⟩ v') D P R Gr Ca Ke Wa AB Ac Tk bq run came kept v' [] := by
  have t := hc.tk
  refine ⟨h.ps.setWait hc v', ?_, ?_, h.bq, ?_, by simpa using h.tk2, fun j hj => by simp at hj, by simp⟩
  · rcases hv with rfl | ⟨Q, m, cap, rfl, rfl⟩
    · exact World.ownsRow_nil _ _ _ _
    · have hQ := (h.apart Q rfl).1
      have hl : m = W.length := by
        rcases h.own.2 with ⟨h', _⟩ | ⟨_, _, _, h', _⟩
        · simp at h'
        · simp only [Value.slice.injEq] at h'; exact h'.2.1
      have h1 := h.own.kept (grown_setCell w Wa 0 (.slice (some ⟨Q, 0, none⟩) 0 cap)) (.inr (by simp [Value.ownBlock]; exact fun e => hQ (by unfold OneOf; simp [e])))
      rw [hl] at h1
      have h2 := owns_shrink h1 (Nat.zero_le _)
      exact h2
  · rcases hv with rfl | ⟨Q, m, cap, rfl, rfl⟩
    · intro g hg; simp [Value.ownBlock] at hg
    · intro g hg; exact h.apart g hg
  · rw [World.cell?_setCell_other _ _ _ _ (by intro e; injection e; omega)]
    exact h.tk1

theorem ST.later {w' : World} (h : ST kp w0 w D P R Gr Ca Ke Wa AB Ac Tk bq run came kept v W) (hb : Below w.heap.size w w') : ST kp w0 w' D P R Gr Ca Ke Wa AB Ac Tk bq run came kept v W := by
  refine ⟨h.ps.later hb, h.own.kept (row := none) ⟨hb.os, hb.tape, hb.output, hb.size, fun k hk _ => hb.block k hk⟩ (by cases hv : v.ownBlock <;> simp), h.apart, h.bq, cell_later hb h.tk1, ?_, h.inP, h.small⟩
  rw [← h.tk2]
  exact hb.frozen (World.block_lt_of_cell? _ _ h.tk1)

theorem ST.append (hc : Cfg kp w0.heap.size R Ca Ke Wa AB Ac Tk) (h : ST kp w0 w D P R Gr Ca Ke Wa AB Ac Tk bq run came kept v W) {wa w1 : World} {gg cap x : Nat} (hga : Below w.heap.size w wa) (hgrow : wa.grownBy w1 v.ownBlock)
    (hown : w1.ownsRow bq 3 1 (.slice (some ⟨gg, 0, none⟩) (W.length + 1) cap) (W.length + 1) (ints W ++ [.int .i64 (x : Int)])) (hat : v.ownBlock = some gg ∨ w.heap.size ≤ gg) (hx : x < P) (hl : W.length + 1 ≤ 65536) :
    ST kp w0 (w1.setCell ⟨Wa, 0, none⟩ (.slice (some ⟨gg, 0, none⟩) (W.length + 1) cap)) D P R Gr Ca Ke Wa AB Ac Tk bq run came kept (.slice (some ⟨gg, 0, none⟩) (W.length + 1) cap) (W ++ [x]) := by
  have t := hc.tk
  have hTl := World.block_lt_of_cell? _ _ h.tk1
  have ha := h.later hga
  have hap : ¬ OneOf kp R Ca Ke Wa AB Ac gg ∧ gg ≠ Tk := by
    rcases hat with e | e
    · exact h.apart gg e
    · exact ⟨fun ho => by have := h.ps.lt ho; omega, by simp at hTl; omega⟩
  have hp1 := ha.ps.grown hgrow (fun g hg => ⟨by have := (h.own.lt g hg).1; have := h.bq; omega, (h.apart g hg).1⟩)
  have hne : some Tk ≠ v.ownBlock := fun e => (h.apart Tk e.symm).2 rfl
  refine ⟨hp1.setWait hc _, ?_, fun g hg => ?_, h.bq, ?_, ?_, fun j hj => ?_, by simpa using hl⟩
  · have h1 := hown.kept (grown_setCell w1 Wa 0 (.slice (some ⟨gg, 0, none⟩) (W.length + 1) cap)) (.inr (by simp [Value.ownBlock]; exact fun e => hap.1 (by unfold OneOf; simp [e])))
    rw [ints_snoc] at h1
    rw [List.length_append]
    exact h1
  · simp [Value.ownBlock] at hg
    subst hg
    exact hap
  · rw [World.cell?_setCell_other _ _ _ _ (by intro e; injection e; omega)]
    exact hgrow.cell ha.tk1 hne
  · rw [World.frozen?_setCell, ← ha.tk2]
    exact World.frozen?_of_block (hgrow.block Tk (World.block_lt_of_cell? _ _ ha.tk1) hne)
  · rw [List.length_append] at hj
    by_cases e : j < W.length
    · have := h.inP j e
      simp only [List.getD, List.getElem?_append_left e] at this ⊢
      exact this
    · simp at hj
      obtain rfl : j = W.length := by omega
      simp [List.getD, hx]
end

end Go.Proofs.Qxb6612538a
