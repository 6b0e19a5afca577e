import Derived.Test.Qxb6612497aSizes
import Derived.Lib.SliceRun
namespace Go.Proofs.Qxb6612497a
open Go.ChangeShapes Go.WideShapes Go.ChangeAt Go.RowKit

/-- A pointer to the head of block p. -/
def ptr (p : Nat) : Value := .pointer (some ⟨p, 0, none⟩)

theorem closure11 (p : Nat) (b : Bool) (w : World) (h : w.cell? ⟨p, 2, none⟩ = some (.bool b)) :
    Calls Try.prog 11 #[.pointer (some ⟨p, 0, none⟩)] w fun e w' => e = .returned (.bool (!b)) ∧ w' = w := by
  go_enter Try.func11, Try.ntmps11
  go_wp2
  go_ret
  exact ⟨rfl, rfl⟩

/-- What the search for the first struck element gives. -/
def First (L : List Nat) (sf : Nat → Bool) (e : Ending) : Prop :=
  (∃ k, k < L.length ∧ e = .returned (.int .i64 k) ∧ sf (L.getD k 0) = false ∧ ∀ j, j < k → sf (L.getD j 0) = true) ∨
  (e = .returned (.int .i64 (-1)) ∧ ∀ j, j < L.length → sf (L.getD j 0) = true)

/-- The properties' own cells. -/
def Props (w : World) (L : List Nat) (sf : Nat → Bool) : Prop := ∀ p, p ∈ L → w.cell? ⟨p, 2, none⟩ = some (.bool (sf p))
theorem Props.at {w : World} {L : List Nat} {sf : Nat → Bool} (h : Props w L sf) {k : Nat} (hk : k < L.length) : w.cell? ⟨L.getD k 0, 2, none⟩ = some (.bool (sf (L.getD k 0))) := by
  refine h _ ?_
  simp [List.getD, List.getElem?_eq_getElem hk]

theorem index12 (L : List Nat) (sf : Nat → Bool) (g n cap : Nat) (hn : L.length = n) (hm : n ≤ maxLen) (w : World)
    (hc : ∀ i, i < n → w.cell? ⟨g, i, none⟩ = some (ptr (L.getD i 0))) (hp : Props w L sf) :
    Calls Try.prog 12 #[.slice (some ⟨g, 0, none⟩) n cap, .func (.func 11) #[] #[]] w fun e w' => First L sf e ∧ w' = w := by
  unfold maxLen at hm
  go_enter Try.func12, Try.ntmps12
  go_wp2
  go_loop [5, 8] (fun _ i => ∃ k : Nat, k ≤ n ∧ i = .int .i64 k ∧ ∀ j, j < k → sf (L.getD j 0) = true) (fun _ i => n - (intOf i).toNat)
  case atStart => exact ⟨0, Nat.zero_le _, rfl, fun j hj => absurd hj (Nat.not_lt_zero _)⟩
  case round =>
    obtain ⟨k, hk, rfl, hall0⟩ := hrel
    have HA : Hid (∀ j, j < k → sf (L.getD j 0) = true) := hall0
    clear hall0
    by_cases hlt : k < n
    · have hck := hc k hlt
      have hpk := hp.at (k := k) (by omega)
      unfold ptr at hck
      obtain ⟨p, HP⟩ : ∃ p, Hid (L.getD k 0 = p) := ⟨_, rfl⟩
      rw [HP.out] at hck hpk
      obtain ⟨b, HB⟩ : ∃ b, Hid (sf p = b) := ⟨_, rfl⟩
      rw [HB.out] at hpk
      clear hc hp
      cases b with
      | true =>
        go_wp2_with (go_at_call 11; refine (closure11 _ _ _ hpk).mono ?_; rintro e w' ⟨rfl, rfl⟩)
        go_round
        case rel =>
          refine ⟨k + 1, by omega, by go_num, fun j hj => ?_⟩
          by_cases e : j = k
          · subst e; rw [HP.out, HB.out]
          · exact HA.out j (by omega)
        case measure => simp [intOf]; omega
      | false =>
        go_wp2_with (go_at_call 11; refine (closure11 _ _ _ hpk).mono ?_; rintro e w' ⟨rfl, rfl⟩)
        go_ret
        exact ⟨.inl ⟨k, by omega, rfl, by rw [HP.out, HB.out], HA.out⟩, rfl⟩
    · clear hc hp
      go_wp2
      go_ret
      exact ⟨.inr ⟨rfl, fun j hj => HA.out j (by omega)⟩, rfl⟩

theorem info28 : (Try.prog.info? 28).map (fun i => (i.zero, i.size, i.bytes)) = some (some (.pointer none), 1, 8) := by kernel_rfl

/-- What a copy of a row gives: the same pointers in memory of the call's own. -/
def Copied (w : World) (L : List Nat) (e : Ending) (w' : World) : Prop :=
  ∃ g cap, e = .returned (.slice (some ⟨g, 0, none⟩) L.length cap) ∧ w'.ownsRow w.heap.size 28 1 (.slice (some ⟨g, 0, none⟩) L.length cap) L.length (L.map ptr) ∧ Below w.heap.size w w'

theorem cell_alloc {w : World} {o : Obj} {a : Addr} {v : Value} (h : w.cell? a = some v) : (w.alloc o).cell? a = some v :=
  ((Below.refl w.heap.size w).alloc (Nat.le_refl _) o).cell (World.block_lt_of_cell? _ _ h) |>.trans h

theorem ptrs_oneCell (L : List Nat) : ∀ u ∈ L.map ptr, u.oneCell' = true := by
  intro u hu
  obtain ⟨_, _, rfl⟩ := List.mem_map.1 hu
  rfl

theorem ptrs_news {w : World} {L : List Nat} {g n : Nat} (hn : L.length = n) (hc : ∀ i, i < n → w.cell? ⟨g, i, none⟩ = some (ptr (L.getD i 0))) :
    ∀ j u, (L.map ptr)[j]? = some u → w.cell? ((⟨g, 0, none⟩ : Addr).add j) = some u := by
  intro j u hu
  have hj : j < n := by
    have := (List.getElem?_eq_some_iff.1 hu).1
    simpa [hn] using this
  rw [Addr.add_lit, Nat.zero_add, hc j hj]
  simp [List.getElem?_eq_getElem (show j < L.length by omega)] at hu
  simp [List.getD, List.getElem?_eq_getElem (show j < L.length by omega), hu]

set_option maxHeartbeats 400000 in
theorem clone10 (L : List Nat) (g n cap : Nat) (hn : L.length = n) (hm : n ≤ 65536) (w : World)
    (hc : ∀ i, i < n → w.cell? ⟨g, i, none⟩ = some (ptr (L.getD i 0))) :
    Calls Try.prog 10 #[.slice (some ⟨g, 0, none⟩) n cap] w fun e w' => Copied w L e w' := by
  obtain ⟨i0, hi, hz0, hz1, hz2⟩ := info_parts info28
  have q27 : ∀ (w : World) (a : Option Addr) (n c : Nat), (binOp .eql 27 (.slice a n c) (.slice none 0 0)).run Try.prog w = .ok (.bool a.isNone) w := fun w a n c => Lib.run_eql_slice_nil w _ _ a n c 0 0 Try.underlying27
  have hnews := ptrs_news hn (fun i hi => cell_alloc (o := .cells #[] 28) (hc i hi))
  have HN : Hid (L.length = n) := hn
  clear hc hn
  go_enter Try.func10, Try.ntmps10
  go_wp2_with (at_builtin; refine wpList_append_own _ rfl (.tmp 5) (.tmp 6) 27 rfl w.heap.size 28 i0 (.pointer none) 1 8 Try.underlying27 hi hz0 hz1 hz2 rfl (by decide) _ 0 [] rfl (World.ownsRow_made w #[] 0 (Nat.le_refl _) (by decide) rfl) ⟨g, 0, none⟩ n cap (L.map ptr) rfl (by simp [HN.out]) hnews (ptrs_oneCell L) (by unfold maxLen; omega) (by omega) (by simp) ?_)
  intro v' w1 hown hgrow hnil
  have hB : Below w.heap.size w w1 := ((Below.refl w.heap.size w).alloc (Nat.le_refl _) (.cells #[] 28)).grown hgrow (by simp) (fun k hk => by simp [Value.ownBlock] at hk; omega)
  have hex : ∃ g' cap', v' = .slice (some ⟨g', 0, none⟩) n cap' := by
    rcases hown.2 with ⟨h, _⟩ | ⟨g', cap', _, h, _⟩
    · exact absurd h hnil
    · exact ⟨g', cap', by simpa using h⟩
  obtain ⟨g', cap', hv⟩ := hex
  have hown2 : w1.ownsRow w.heap.size 28 1 (.slice (some ⟨g', 0, none⟩) n cap') n (L.map ptr) := by
    rw [hv] at hown; simpa using hown
  clear hown hgrow hnil hnews
  rw [hv]
  go_wp2
  go_ret
  have e := HN.out
  subst e
  exact ⟨g', cap', rfl, hown2, hB⟩

end Go.Proofs.Qxb6612497a
