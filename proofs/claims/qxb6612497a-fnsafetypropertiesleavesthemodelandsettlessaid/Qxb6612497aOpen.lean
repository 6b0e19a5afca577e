import Derived.Test.Qxb6612497aSizes
import Derived.Deep.Grids
import Derived.SliceStrings
namespace Go.Proofs.Qxb6612497a
open Go.ChangeShapes Go.WideShapes Go.ChangeAt Go.RowKit Go.Deep

section
variable {H : Type} {enc : TypeId × Value → H} {W : World} {held : Bool}

/-- A cell that is there lies at a plain address. -/
theorem plain_at {w : World} {x : Addr} {v : Value} (h : w.cell? (x.add 0) = some v) : ∃ b off, x = ⟨b, off, none⟩ := by
  obtain ⟨b, off, sp⟩ := x
  cases sp with
  | none => exact ⟨b, off, rfl⟩
  | some s =>
    simp [Addr.add, World.cell?] at h
    split at h <;> simp at h

theorem row_strings {a : Option Addr} {len cap fuel : Nat} {x : DataW H × List MemPlace} (hf : DataW.trod enc Try.prog W 0 (fun _ => true) held fuel 22 (Value.slice a len cap).cells.toList = some x) :
    ∃ s : Nat → ByteArray, IsRow Value.string W a len cap s ∧ ∀ i, i < len → (s i).size ≤ maxLen := by
  rcases open_strings Try.underlying22 Try.underlying9 (by kernel_rfl) hf with ⟨hcs, _⟩ | ⟨x, l, c, ss, hcs, _, hl, hm, hz, _, hcell, hws⟩
  · simp [Value.cells] at hcs
    obtain ⟨rfl, rfl, rfl⟩ := hcs
    exact ⟨fun _ => ByteArray.empty, .inl rfl, fun i hi => absurd hi (Nat.not_lt_zero _)⟩
  · simp [Value.cells] at hcs
    obtain ⟨rfl, rfl, rfl⟩ := hcs
    simp only [if_true] at hz
    refine ⟨fun i => ss.getD i ByteArray.empty, ?_, fun i hi => hws _ ?_⟩
    · by_cases hpos : len = 0
      · exact .inl hpos
      · obtain ⟨b, off, rfl⟩ := plain_at (hcell 0 (by omega))
        refine .inr ⟨b, off, rfl, hl, hm, fun i hi => ?_⟩
        have := hcell i (by omega)
        rwa [Addr.add_lit] at this
    · simp [List.getD, List.getElem?_eq_getElem (show i < ss.length by omega)]

theorem row_bools {a : Option Addr} {len cap fuel : Nat} {x : DataW H × List MemPlace} (hf : DataW.trod enc Try.prog W 0 (fun _ => true) held fuel 23 (Value.slice a len cap).cells.toList = some x) :
    ∃ S : Nat → Bool, IsRow Value.bool W a len cap S := by
  rcases open_bools Try.underlying23 Try.underlying4 (by kernel_rfl) hf with ⟨hcs, _⟩ | ⟨x, l, c, B, hcs, _, hl, hm, _, hcell⟩
  · simp [Value.cells] at hcs
    obtain ⟨rfl, rfl, rfl⟩ := hcs
    exact ⟨fun _ => false, .inl rfl⟩
  · simp [Value.cells] at hcs
    obtain ⟨rfl, rfl, rfl⟩ := hcs
    refine ⟨B, ?_⟩
    by_cases hpos : len = 0
    · exact .inl hpos
    · obtain ⟨b, off, rfl⟩ := plain_at (hcell 0 (by omega))
      refine .inr ⟨b, off, rfl, hl, hm, fun i hi => ?_⟩
      have := hcell i (by omega)
      rwa [Addr.add_lit] at this
end

end Go.Proofs.Qxb6612497a
