import Derived.Test.Qxb6612538aHubG
namespace Go.Proofs.Qxb6612538a
open Go.ChangeShapes Go.WideShapes Go.ChangeAt Go.RowKit

/-- The slice value v holds the numbers l, at the head of a block. -/
def NRow (w : World) (v : Value) (l : List Nat) : Prop :=
  ∃ a c, v = .slice a l.length c ∧ (l.length = 0 ∨ ∃ g, a = some ⟨g, 0, none⟩ ∧ ∀ j, j < l.length → w.cell? ⟨g, j, none⟩ = some (.int .i64 ((l.getD j 0 : Nat) : Int)))

theorem ints_get (l : List Nat) (j : Nat) (h : j < l.length) : (ints l)[j]? = some (.int .i64 ((l.getD j 0 : Nat) : Int)) := by
  simp [ints, List.getD, List.getElem?_eq_getElem h]

theorem NRow.of_owns {w : World} {base n : Nat} {v : Value} {l : List Nat} (h : w.ownsRow base 3 1 v n (ints l)) : n = l.length ∧ NRow w v l := by
  have hl := h.1
  rw [ints_length] at hl
  have hn : n = l.length := by omega
  subst hn
  refine ⟨rfl, ?_⟩
  rcases h.2 with ⟨rfl, h0⟩ | ⟨g, cap, cur, rfl, _⟩
  · exact ⟨none, 0, by rw [h0], .inl h0⟩
  · refine ⟨_, cap, rfl, .inr ⟨g, rfl, fun j hj => ?_⟩⟩
    rw [h.cellAt j (by omega)]
    exact ints_get l j hj

theorem NRow.later {w w' : World} {v : Value} {l : List Nat} (h : NRow w v l) (hb : Below w.heap.size w w') : NRow w' v l := by
  obtain ⟨a, c, h1, h2⟩ := h
  refine ⟨a, c, h1, ?_⟩
  rcases h2 with h2 | ⟨g, h3, h4⟩
  · exact .inl h2
  · exact .inr ⟨g, h3, fun j hj => cell_later hb (h4 j hj)⟩

set_option maxHeartbeats 1000000 in
theorem same23 {w : World} {a0 a1 : Option Addr} {c0 c1 : Nat} (l : List Nat) (hl : l.length ≤ 1048576) (h0 : NRow w (.slice a0 l.length c0) l) (h1 : NRow w (.slice a1 l.length c1) l) :
    Calls Try.prog 23 #[.slice a0 l.length c0, .slice a1 l.length c1] w fun e w' => Gives true w e w' := by
  obtain ⟨a, c, e0, r0⟩ := h0
  obtain ⟨a', c', e1, r1⟩ := h1
  simp only [Value.slice.injEq, true_and] at e0 e1
  obtain ⟨rfl, rfl⟩ := e0
  obtain ⟨rfl, rfl⟩ := e1
  have R0 := (show Hid _ from r0)
  have R1 := (show Hid _ from r1)
  clear r0 r1
  obtain ⟨n, hn⟩ : ∃ n, n = l.length := ⟨_, rfl⟩
  rw [← hn] at hl R0 R1 ⊢
  clear hn
  have hne : ((n : Int) != (n : Int)) = false := by simp
  go_enter Try.func23, Try.ntmps23
  go_wp2_with fail
  go_loopw [5] (fun v5 wz => ∃ k q : Nat, k ≤ n ∧ v5 = .int .i64 k ∧ wz = w.drewN q) (fun v5 _ => n - (intOf v5).toNat)
  case atStart => exact ⟨0, 0, by omega, rfl, rfl⟩
  case round =>
    obtain ⟨k, q, hk, rfl, rfl⟩ := hrel
    by_cases hlt : k < n
    · obtain ⟨g0, rfl, hc0⟩ : ∃ g, a0 = some ⟨g, 0, none⟩ ∧ ∀ j, j < n → w.cell? ⟨g, j, none⟩ = some (.int .i64 ((l.getD j 0 : Nat) : Int)) := by
        rcases R0.out with hz | h
        · omega
        · exact h
      obtain ⟨g1, rfl, hc1⟩ : ∃ g, a1 = some ⟨g, 0, none⟩ ∧ ∀ j, j < n → w.cell? ⟨g, j, none⟩ = some (.int .i64 ((l.getD j 0 : Nat) : Int)) := by
        rcases R1.out with hz | h
        · omega
        · exact h
      have d0 := hc0 k hlt
      have d1 := hc1 k hlt
      generalize l.getD k 0 = x at d0 d1
      clear hc0 hc1
      have k0 : (0 : Int) ≤ (k : Int) := by omega
      have k1 : (k : Int) < (n : Int) := by omega
      have hxx : ((x : Int) != (x : Int)) = false := by simp
      go_wp2_with fail
      go_quiet (fail)
      go_wp2_with fail
      go_roundw
      case rel => exact ⟨k + 1, q + nq, by omega, by go_num, by simp⟩
      case measure => simp [intOf]; omega
    · go_wp2_with fail
      go_ret
      exact ⟨rfl, q, rfl⟩

theorem info4 : (Try.prog.info? 4).map (fun i => (i.zero, i.size, i.bytes)) = some (some (.bool false), 1, 1) := by kernel_rfl
theorem info22 : (Try.prog.info? 22).map (fun i => (i.zero, i.size, i.bytes)) = some (some (.slice none 0 0), 1, 24) := by kernel_rfl

/-- The accept flags in a row of the call's own. -/
def AccPost (w : World) (P : Nat) (D : ND) (e : Ending) (w' : World) : Prop :=
  e = .returned (.slice (some ⟨w.heap.size, 0, none⟩) P P) ∧ (∀ m, m < P → w'.cell? ⟨w.heap.size, m, none⟩ = some (.bool (D.acc m))) ∧ Below w.heap.size w w' ∧ w.heap.size < w'.heap.size

section
variable {w : World} {b off P cap : Nat} {D : ND}

set_option maxHeartbeats 1000000 in
theorem accepts20 (hP : P ≤ 65536) (h : Nodes w b off P D) :
    Calls Try.prog 20 #[.slice (some ⟨b, off, none⟩) P cap] w fun e w' => AccPost w P D e w' := by
  have HN : Hid (Nodes w b off P D) := h
  clear h
  obtain ⟨i0, hi, hz0, hz1, hz2⟩ := info_parts info4
  go_enter Try.func20, Try.ntmps20
  go_wp2_with (at_make; refine wpList_make_full _ rfl _ _ 43 rfl w.heap.size 4 i0 (.bool false) 1 Try.underlying43 hi hz0 hz1 _ _ _ _ P rfl rfl rfl rfl (by rw [hz2]; omega) (by unfold maxLen; omega) (Nat.le_refl _) ?_)
  intro w1 hown hgrow
  have HW0 : Hid (∃ xs, w1.ownsRow w.heap.size 4 1 (.slice (some ⟨w.heap.size, 0, none⟩) P P) P xs) := ⟨_, hown⟩
  have HB0 : Hid (Below w.heap.size w w1) := (Below.refl _ _).grown hgrow (Nat.le_refl _) (fun k hk => by cases hk)
  clear hown hgrow hi hz0 hz1 hz2
  go_wp2_with fail
  go_loopw [4] (fun v4 wr => ∃ k : Nat, k ≤ P ∧ v4 = .int .i64 k ∧ Hid (∃ xs, wr.ownsRow w.heap.size 4 1 (.slice (some ⟨w.heap.size, 0, none⟩) P P) P xs) ∧ Hid (∀ m, m < k → wr.cell? ⟨w.heap.size, m, none⟩ = some (.bool (D.acc m))) ∧ Hid (Below w.heap.size w wr)) (fun v4 _ => P - (intOf v4).toNat)
  case atStart => exact ⟨0, by omega, rfl, HW0, fun m hm => by omega, HB0⟩
  case round =>
    obtain ⟨k, hk, rfl, HW, HC, HB⟩ := hrel
    by_cases hlt : k < P
    · have ca := (HN.out.later HB.out).acc k hlt
      obtain ⟨xs, ho⟩ := HW.out
      have hl := ho.1
      have fz := ho.frozenAt k
      have cg : wr.cell? ⟨w.heap.size, k, none⟩ = some (xs.getD k (.bool false)) := by
        rw [ho.cellAt k (by omega), List.getD, List.getElem?_eq_getElem (by omega)]; rfl
      generalize xs.getD k (.bool false) = old at cg
      have HW2 : Hid (∃ xs, (wr.setCell ⟨w.heap.size, k, none⟩ (.bool (D.acc k))).ownsRow w.heap.size 4 1 (.slice (some ⟨w.heap.size, 0, none⟩) P P) P xs) := ⟨_, (ho.stored k (.bool (D.acc k))).1⟩
      have HC2 : Hid (∀ m, m < k + 1 → (wr.setCell ⟨w.heap.size, k, none⟩ (.bool (D.acc k))).cell? ⟨w.heap.size, m, none⟩ = some (.bool (D.acc m))) := fun m hm => by
        by_cases e : m = k
        · subst e; exact World.cell?_setCell_same _ _ _ cg
        · rw [World.cell?_setCell_other _ _ _ _ (by intro h; injection h; omega)]
          exact HC.out m (by omega)
      have HB2 : Hid (Below w.heap.size w (wr.setCell ⟨w.heap.size, k, none⟩ (.bool (D.acc k)))) := HB.out.setCell (Nat.le_refl _) _
      clear ho hl HW HC HB
      generalize D.acc k = z at ca HW2 HC2 HB2
      go_wp2_with fail
      go_roundw
      case rel => exact ⟨k + 1, by omega, by go_num, HW2, HC2, HB2⟩
      case measure => simp [intOf]; omega
    · obtain rfl : k = P := by omega
      have hfin : Hid (AccPost w k D (.returned (.slice (some ⟨w.heap.size, 0, none⟩) k k)) wr) := by
        obtain ⟨xs, ho⟩ := HW.out
        exact ⟨rfl, HC.out, HB.out, (ho.lt _ rfl).2⟩
      go_wp2_with fail
      go_ret
      exact hfin.out
end

end Go.Proofs.Qxb6612538a
