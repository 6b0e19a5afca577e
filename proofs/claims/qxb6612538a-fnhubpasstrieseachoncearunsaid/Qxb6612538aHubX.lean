import Derived.Test.Qxb6612538aHubE
import Derived.Deep.Slices
import Derived.Lib.SmallJoins
namespace Go.Proofs.Qxb6612538a
open Go.ChangeShapes Go.WideShapes Go.ChangeAt Go.RowKit Go.Deep

/-- A cell that is there lies at a plain address. -/
theorem plainAt {w : World} {x : Addr} {v : Value} (h : w.cell? (x.add 0) = some v) : ∃ b off, x = ⟨b, off, none⟩ := by
  obtain ⟨b, off, sp⟩ := x
  cases sp with
  | none => exact ⟨b, off, rfl⟩
  | some s =>
    simp [Addr.add, World.cell?] at h
    split at h <;> simp at h

section
variable {H : Type} {enc : TypeId × Value → H} {W : World} {held : Bool}

theorem row_ints {v : Value} {fuel : Nat} {x : DataW H × List MemPlace} (hf : DataW.trod enc Try.prog W 0 (fun _ => true) held fuel 22 [v] = some x) : ∃ xs, Row W v xs := by
  rcases open_ints Try.underlying22 Try.underlying3 (by kernel_rfl) hf with ⟨hcs, _⟩ | ⟨x, l, c, zs, hcs, _, hl, hm, hz, _, hcell, _⟩
  · obtain rfl : v = .slice none 0 0 := by simpa using hcs
    exact ⟨[], none, 0, rfl, by simp, .inl rfl⟩
  · obtain rfl : v = .slice (some x) l c := by simpa using hcs
    simp only [if_true] at hz
    unfold maxLen at hm
    have hlen : (zs.take l).length = l := by rw [List.length_take]; omega
    refine ⟨zs.take l, some x, c, by rw [hlen], by omega, ?_⟩
    by_cases hpos : l = 0
    · exact .inl (by omega)
    · obtain ⟨b, off, rfl⟩ := plainAt (hcell 0 (by omega))
      refine .inr ⟨b, off, rfl, fun j hj => ?_⟩
      have h1 := hcell j (by omega)
      rw [Addr.add_lit] at h1
      rw [h1]
      have hj' : j < l := by omega
      simp [List.getD, hj']

set_option maxRecDepth 100000 in
theorem open_nodes {a : Option Addr} {len cap fuel : Nat} {x : DataW H × List MemPlace} (hf : DataW.trod enc Try.prog W 0 (fun _ => true) held fuel 29 (Value.slice a len cap).cells.toList = some x) :
    len = 0 ∨ ∃ b off D, a = some ⟨b, off, none⟩ ∧ len ≤ 9223372036854775807 ∧ Nodes W b off len D := by
  have hc75 : Try.prog.cellsOf 75 = 4 := by kernel_rfl
  have hc4 : Try.prog.cellsOf 4 = 1 := by kernel_rfl
  have hc22 : Try.prog.cellsOf 22 = 1 := by kernel_rfl
  rcases open_slice Try.underlying29 hf with ⟨hcs, _⟩ | ⟨x, l, c, m, n, _, _, hcs, _, hl, hm, hmm, _, hel⟩
  · simp [Value.cells] at hcs
    exact .inl hcs.2.1
  · simp [Value.cells] at hcs
    obtain ⟨rfl, rfl, rfl⟩ := hcs
    simp only [if_true] at hmm
    subst hmm
    unfold maxLen at hm
    by_cases hpos : len = 0
    · exact .inl hpos
    right
    have hone : ∀ i, i < len → ∃ q : (Bool × Bool) × (Bool × List Int), W.cell? (x.add (i * 4)) = some (.bool q.1.1) ∧ W.cell? (x.add (i * 4 + 1)) = some (.bool q.1.2) ∧ W.cell? (x.add (i * 4 + 2)) = some (.bool q.2.1) ∧ ∃ v, W.cell? (x.add (i * 4 + 3)) = some v ∧ Row W v q.2.2 := by
      intro i hi
      obtain ⟨cs', h1, h2⟩ := hel i (by omega)
      rw [hc75] at h1
      obtain ⟨_, hlen, hcell⟩ := World.cells?_some h1
      obtain ⟨y0, y1, y2, y3, n', _, _, t0, t1, t2, t3⟩ := Go.Joins.trod_struct4 Try.underlying75 h2
      match cs', hlen with
      | [c0, c1, c2, c3], _ =>
        simp only [hc4, hc22] at t0 t1 t2 t3
        simp at t0 t1 t2 t3
        obtain ⟨b0, e0, _⟩ := DataW.trod_bool Try.underlying4 t0
        obtain ⟨b1, e1, _⟩ := DataW.trod_bool Try.underlying4 t1
        obtain ⟨b2, e2, _⟩ := DataW.trod_bool Try.underlying4 t2
        obtain ⟨xs, hrow⟩ := row_ints t3
        simp at e0 e1 e2
        subst e0 e1 e2
        have k0 := hcell 0 (by omega)
        have k1 := hcell 1 (by omega)
        have k2 := hcell 2 (by omega)
        have k3 := hcell 3 (by omega)
        rw [add_add] at k0 k1 k2 k3
        exact ⟨((b0, b1), (b2, xs)), k0, k1, k2, c3, k3, hrow⟩
    obtain ⟨f, hF⟩ := choose_lt hone
    obtain ⟨b, off, rfl⟩ := plainAt (by have h := (hF 0 (by omega)).1; rwa [Nat.zero_mul] at h)
    refine ⟨b, off, ⟨fun i => (f i).1.1, fun i => (f i).1.2, fun i => (f i).2.1, fun i => (f i).2.2⟩, rfl, by omega, ⟨fun i hi => ?_, fun i hi => ?_, fun i hi => ?_, fun i hi => ?_⟩⟩
    · have := (hF i hi).1; rwa [Addr.add_lit] at this
    · have := (hF i hi).2.1; rwa [Addr.add_lit, ← Nat.add_assoc] at this
    · have := (hF i hi).2.2.1; rwa [Addr.add_lit, ← Nat.add_assoc] at this
    · obtain ⟨v, h1, h2⟩ := (hF i hi).2.2.2
      rw [Addr.add_lit, ← Nat.add_assoc] at h1
      exact ⟨v, h1, h2⟩
end

end Go.Proofs.Qxb6612538a
