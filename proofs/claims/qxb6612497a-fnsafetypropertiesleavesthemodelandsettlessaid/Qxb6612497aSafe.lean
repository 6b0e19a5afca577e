import Derived.Test.Qxb6612497aDel
namespace Go.Proofs.Qxb6612497a
open Go.ChangeShapes Go.WideShapes Go.ChangeAt Go.RowKit

/-- What SafetyProperties gives: the safety ones, the very same pointers, in order, in memory of the call's own. -/
def Safe (w : World) (L : List Nat) (sf : Nat → Bool) (e : Ending) (w' : World) : Prop :=
  ∃ g cap, e = .returned (.slice (some ⟨g, 0, none⟩) (L.filter sf).length cap) ∧ w'.ownsRow w.heap.size 28 1 (.slice (some ⟨g, 0, none⟩) (L.filter sf).length cap) (L.filter sf).length ((L.filter sf).map ptr) ∧ Below w.heap.size w w'

theorem Props.below {w w' : World} {L : List Nat} {sf : Nat → Bool} (h : Props w L sf) (hb : Below w.heap.size w w') : Props w' L sf := fun p hp => (hb.cell (World.block_lt_of_cell? _ _ (h p hp))).trans (h p hp)

set_option maxHeartbeats 1000000 in
theorem safe7 (L : List Nat) (sf : Nat → Bool) (b g n cap : Nat) (hn : L.length = n) (hm : n ≤ 65536) (w : World)
    (hmod : w.cell? ⟨b, 4, none⟩ = some (.slice (some ⟨g, 0, none⟩) n cap))
    (hc : ∀ i, i < n → w.cell? ⟨g, i, none⟩ = some (ptr (L.getD i 0))) (hp : Props w L sf) :
    Calls Try.prog 7 #[.pointer (some ⟨b, 0, none⟩)] w fun e w' => Safe w L sf e w' := by
  have HP : Hid (Props w L sf) := hp
  have HN : Hid (L.length = n) := hn
  have HC : Hid (∀ i, i < n → w.cell? ⟨g, i, none⟩ = some (ptr (L.getD i 0))) := hc
  clear hp hn hc
  go_enter Try.func7, Try.ntmps7
  go_wp2_with fail
  refine (clone10 L g n cap HN.out hm _ HC.out).mono ?_
  rintro e w1 hcp
  obtain ⟨g', cap', rfl, hown, hB⟩ := hcp
  rw [HN.out] at hown
  rw [HN.out]
  have HO : Hid (w1.ownsRow w.heap.size 28 1 (.slice (some ⟨g', 0, none⟩) n cap') n (L.map ptr)) := hown
  clear hown
  have HP1 : Hid (Props w1 L sf) := HP.out.below hB
  have hne : g' ∉ L := fun h => by
    have h1 := World.block_lt_of_cell? _ _ (HP.out g' h)
    have h2 := (HO.out.lt g' rfl).1
    simp at h1
    omega
  have HB : Hid (Below w.heap.size w w1) := hB
  clear hB
  go_wp2_with fail
  refine (delete9 L sf w.heap.size g' n cap' HN.out hm _ HO.out HP1.out hne).mono ?_
  rintro e w2 hd
  obtain ⟨rfl, hown2, hgrow⟩ := hd
  have hfin : Hid (Safe w L sf (.returned (.slice (some ⟨g', 0, none⟩) (L.filter sf).length cap')) w2) :=
    ⟨g', cap', rfl, hown2, HB.out.grown hgrow HB.out.size (fun k hk => by have h2 := (HO.out.lt g' rfl).1; simp at hk; omega)⟩
  clear hown2 hgrow
  go_wp2_with fail
  go_ret
  exact hfin.out

end Go.Proofs.Qxb6612497a
