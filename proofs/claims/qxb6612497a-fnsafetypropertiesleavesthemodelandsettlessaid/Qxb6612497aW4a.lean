import Derived.Test.Qxb6612497aW3
namespace Go.Proofs.Qxb6612497a
open Go.ChangeShapes Go.WideShapes Go.ChangeAt Go.RowKit

set_option maxHeartbeats 400000 in
theorem bytes8 (a0 : Option Addr) (l0 c0 : Nat) (s : Nat → ByteArray) (a1 : Option Addr) (l1 c1 : Nat) (w : World)
    (h0 : IsRow Value.string w a0 l0 c0 s) (hs : ∀ i, i < l0 → (s i).size ≤ maxLen) (h1 : l1 ≤ maxLen) :
    Calls Try.prog 8 #[.slice a0 l0 c0, .slice a1 l1 c1] w fun e w' => SomeBool e ∧ w' = w := by
  unfold maxLen at h1 hs
  by_cases hb : l0 ≤ 1048576
  · go_enter Try.func8, Try.ntmps8
    go_wp2
    go_loop [5, 6] (fun n i => ∃ k T : Nat, k ≤ l0 ∧ T ≤ 1048576 ∧ i = .int .i64 k ∧ n = .int .i64 T) (fun _ i => l0 - (intOf i).toNat)
    case atStart => exact ⟨0, l0, Nat.zero_le _, hb, rfl, rfl⟩
    case round =>
      obtain ⟨k, T, hk, hT, rfl, rfl⟩ := hrel
      by_cases hlt : k < l0
      · rcases h0 with hz | ⟨b, off, rfl, hl, hm, hc⟩
        · omega
        · have hcell := hc k hlt
          have hsk := hs k hlt
          clear hc
          go_wp2
          · go_ret
            exact ⟨⟨_, rfl⟩, rfl⟩
          · go_ret
            exact ⟨⟨_, rfl⟩, rfl⟩
          · go_round
            case rel => exact ⟨k + 1, T + (s k).size, by omega, by omega, by go_num, by go_num⟩
            case measure => simp [intOf]; omega
      · go_wp2
        all_goals
          go_ret
          exact ⟨⟨_, rfl⟩, rfl⟩
  · go_enter Try.func8, Try.ntmps8
    go_wp2
    go_ret
    exact ⟨⟨_, rfl⟩, rfl⟩

/-- How many of the first k flags are set. -/
def cnt (S : Nat → Bool) : Nat → Nat
  | 0 => 0
  | k + 1 => cnt S k + if S k = true then 1 else 0

theorem cnt_le (S : Nat → Bool) : ∀ k, cnt S k ≤ k
  | 0 => Nat.le_refl _
  | k + 1 => by have := cnt_le S k; unfold cnt; split <;> omega

theorem cnt_filter (sf : Nat → Bool) (L : List Nat) (S : Nat → Bool) (n : Nat) (hn : L.length = n) (h : ∀ i, i < n → sf (L.getD i 0) = S i) : ∀ k, k ≤ n → ((L.take k).filter sf).length = cnt S k
  | 0, _ => by simp [cnt]
  | k + 1, hk => by
    rw [filter_snoc_len sf L k (by omega), cnt_filter sf L S n hn h k (by omega), h k (by omega)]
    rfl

theorem cnt_filter_all (sf : Nat → Bool) (L : List Nat) (S : Nat → Bool) (n : Nat) (hn : L.length = n) (h : ∀ i, i < n → sf (L.getD i 0) = S i) : (L.filter sf).length = cnt S n := by
  have := cnt_filter sf L S n hn h n (Nat.le_refl _)
  rwa [← hn, List.take_length, hn] at this

/-- All that the law's later loops read. -/
structure Facts (w wz : World) (n g cap mb : Nat) (L R : List Nat) (sf : Nat → Bool) (s : Nat → ByteArray) (S : Nat → Bool) : Prop where
  len : L.length = n
  filt : L.filter sf = R
  props : ∀ i, i < n → wz.cell? ⟨w.heap.size, i, none⟩ = some (ptr (L.getD i 0))
  model : wz.cell? ⟨mb, 4, none⟩ = some (.slice (some ⟨w.heap.size, 0, none⟩) n n)
  safe : ∀ i, i < n → wz.cell? ⟨L.getD i 0, 2, none⟩ = some (.bool (S i))
  label : ∀ i, i < n → wz.cell? ⟨L.getD i 0, 0, none⟩ = some (.string (s i))
  flags : Props wz L sf
  own : wz.ownsRow (mb + 1) 28 1 (.slice (some ⟨g, 0, none⟩) R.length cap) R.length (R.map ptr)
  le : w.heap.size < mb
  below : Below w.heap.size w wz

theorem Facts.drewN {w wz : World} {n g cap mb : Nat} {L R : List Nat} {sf : Nat → Bool} {s : Nat → ByteArray} {S : Nat → Bool} (h : Facts w wz n g cap mb L R sf s S) (q : Nat) : Facts w (wz.drewN q) n g cap mb L R sf s S :=
  ⟨h.len, h.filt, h.props, h.model, h.safe, h.label, h.flags, h.own, h.le, below_drewN h.below q⟩

theorem Facts.later {w wz wy : World} {n g cap mb : Nat} {L R : List Nat} {sf : Nat → Bool} {s : Nat → ByteArray} {S : Nat → Bool} (h : Facts w wz n g cap mb L R sf s S) (hb : Below wz.heap.size wz wy) : Facts w wy n g cap mb L R sf s S := by
  refine ⟨h.len, h.filt, fun i hi => cell_later hb (h.props i hi), cell_later hb h.model, fun i hi => cell_later hb (h.safe i hi), fun i hi => cell_later hb (h.label i hi), h.flags.below hb, ?_, h.le, h.below.trans (hb.mono h.below.size)⟩
  exact h.own.kept (row := none) ⟨hb.os, hb.tape, hb.output, hb.size, fun k hk _ => hb.block k hk⟩ (.inr (by simp [Value.ownBlock]))

theorem Facts.mem {w wz : World} {n g cap mb : Nat} {L R : List Nat} {sf : Nat → Bool} {s : Nat → ByteArray} {S : Nat → Bool} (h : Facts w wz n g cap mb L R sf s S) {k : Nat} (hk : k < R.length) : wz.cell? ⟨R.getD k 0, 2, none⟩ = some (.bool true) := by
  have hm := getD_mem hk
  generalize R.getD k 0 = p at hm
  rw [← h.filt, List.mem_filter] at hm
  rw [h.flags p hm.1, hm.2]

theorem Facts.again {w wz : World} {n g cap mb : Nat} {L R : List Nat} {sf : Nat → Bool} {s : Nat → ByteArray} {S : Nat → Bool} (h : Facts w wz n g cap mb L R sf s S) : R.filter sf = R ∧ Props wz R sf := by
  rw [← h.filt]
  refine ⟨by simp [List.filter_filter], fun p hp => h.flags p (List.mem_filter.1 hp).1⟩

/-- What the last two loops read. -/
structure Tail (w wz : World) (n g cap mb m : Nat) (L : List Nat) : Prop where
  props : ∀ i, i < n → wz.cell? ⟨w.heap.size, i, none⟩ = some (ptr (L.getD i 0))
  model : wz.cell? ⟨mb, 4, none⟩ = some (.slice (some ⟨w.heap.size, 0, none⟩) n n)
  own : ∃ xs, wz.ownsRow (mb + 1) 28 1 (.slice (some ⟨g, 0, none⟩) m cap) m xs
  le : w.heap.size < mb
  below : Below w.heap.size w wz

theorem Facts.tail {w wz : World} {n g cap mb : Nat} {L R : List Nat} {sf : Nat → Bool} {s : Nat → ByteArray} {S : Nat → Bool} (h : Facts w wz n g cap mb L R sf s S) : Tail w wz n g cap mb R.length L :=
  ⟨h.props, h.model, ⟨_, h.own⟩, h.le, h.below⟩

theorem Tail.cell {w wz : World} {n g cap mb m : Nat} {L : List Nat} (h : Tail w wz n g cap mb m L) {k : Nat} (hk : k < m) : ∃ v, wz.cell? ⟨g, k, none⟩ = some v := by
  obtain ⟨xs, ho⟩ := h.own
  have hl := ho.1
  rw [ho.cellAt k (by omega), List.getElem?_eq_getElem (by omega)]
  exact ⟨_, rfl⟩

theorem Tail.frozen {w wz : World} {n g cap mb m : Nat} {L : List Nat} (h : Tail w wz n g cap mb m L) (k : Nat) : wz.frozen? ⟨g, k, none⟩ = false := by
  obtain ⟨xs, ho⟩ := h.own
  exact ho.frozenAt k

theorem Tail.store {w wz : World} {n g cap mb m : Nat} {L : List Nat} (h : Tail w wz n g cap mb m L) (k : Nat) (u : Value) : Tail w (wz.setCell ⟨g, k, none⟩ u) n g cap mb m L := by
  obtain ⟨xs, ho⟩ := h.own
  have hg := (ho.lt g rfl).1
  have hle := h.le
  refine ⟨fun i hi => ?_, ?_, ⟨_, (ho.stored k u).1⟩, h.le, h.below.setCell (by simp; omega) _⟩
  · rw [World.cell?_setCell_other _ _ _ _ (by intro e; injection e; omega)]
    exact h.props i hi
  · rw [World.cell?_setCell_other _ _ _ _ (by intro e; injection e; omega)]
    exact h.model

theorem Facts.of {w wr w2 : World} {n g cap : Nat} {L : List Nat} {sf : Nat → Bool} {s : Nat → ByteArray} {S : Nat → Bool} {o : Obj} (h : Built w wr n n L s S) (hp : Props wr L sf)
    (hm : (wr.alloc o).cell? ⟨wr.heap.size, 4, none⟩ = some (.slice (some ⟨w.heap.size, 0, none⟩) n n)) (hB : Below (wr.alloc o).heap.size (wr.alloc o) w2)
    (hown : w2.ownsRow (wr.alloc o).heap.size 28 1 (Value.slice (some ⟨g, 0, none⟩) (List.filter sf L).length cap) (List.filter sf L).length ((List.filter sf L).map ptr)) :
    Facts w w2 n g cap wr.heap.size L (L.filter sf) sf s S := by
  have bel0 : Below wr.heap.size wr (wr.alloc o) := (Below.refl _ _).alloc (Nat.le_refl _) _
  have hB2 : Below wr.heap.size wr w2 := bel0.trans (hB.mono (by simp))
  refine ⟨h.len, rfl, fun i hi => cell_later hB2 (h.cells i hi), cell_later hB hm, fun i hi => cell_later hB2 (h.safe i hi), fun i hi => cell_later hB2 (h.label i hi), hp.below hB2, ?_, h.size, h.below.trans (hB2.mono (by have := h.size; omega))⟩
  have h' := hown
  simp only [World.size_alloc] at h'
  exact h'

end Go.Proofs.Qxb6612497a
