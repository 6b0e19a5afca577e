import Derived.Test.Qxb6612538aHubH
namespace Go.Proofs.Qxb6612538a
open Go.ChangeShapes Go.WideShapes Go.ChangeAt Go.RowKit

/-- The first m plain nodes that node u leads to. -/
def tl (D : ND) (u m : Nat) : List Nat := ((D.nx u).take m).map Int.toNat
/-- The targets of node u: its plain ones, and the hub, P, where it leads into it; of the hub: the nodes that it leads to. -/
def tgt (D : ND) (P u : Nat) : List Nat := if u < P then (D.nx u).map Int.toNat ++ (if D.into u = true then [P] else []) else (List.range P).filter D.frm

theorem tl_succ (D : ND) (u m : Nat) (x : Nat) (hm : m < (D.nx u).length) (hx : (D.nx u).getD m 0 = (x : Int)) : tl D u (m + 1) = tl D u m ++ [x] := by
  unfold tl
  rw [List.take_succ_eq_append_getElem hm, List.map_append]
  simp only [List.getD, List.getElem?_eq_getElem hm, Option.getD_some] at hx
  simp [hx]
theorem tl_len (D : ND) (u m : Nat) (hm : m ≤ (D.nx u).length) : (tl D u m).length = m := by
  unfold tl; simp; omega
theorem tl_all (D : ND) (u : Nat) : tl D u (D.nx u).length = (D.nx u).map Int.toNat := by unfold tl; simp

/-- The slice value v holds the numbers l, at the head of a block above G. -/
def TRow (w : World) (G : Nat) (v : Value) (l : List Nat) : Prop :=
  ∃ a c, v = .slice a l.length c ∧ (l.length = 0 ∨ ∃ g, G < g ∧ a = some ⟨g, 0, none⟩ ∧ ∀ j, j < l.length → w.cell? ⟨g, j, none⟩ = some (.int .i64 ((l.getD j 0 : Nat) : Int)))

theorem TRow.of_owns {w : World} {G base n : Nat} {v : Value} {l : List Nat} (hG : G < base) (h : w.ownsRow base 3 1 v n (ints l)) : TRow w G v l := by
  obtain ⟨rfl, a, c, rfl, h2⟩ := NRow.of_owns h
  refine ⟨a, c, rfl, ?_⟩
  rcases h2 with h2 | ⟨g, rfl, h4⟩
  · exact .inl h2
  · exact .inr ⟨g, by have := (h.lt g rfl).1; omega, rfl, h4⟩

theorem TRow.nrow {w : World} {G : Nat} {v : Value} {l : List Nat} (h : TRow w G v l) : NRow w v l := by
  obtain ⟨a, c, h1, h2⟩ := h
  refine ⟨a, c, h1, ?_⟩
  rcases h2 with h2 | ⟨g, _, h3, h4⟩
  · exact .inl h2
  · exact .inr ⟨g, h3, h4⟩

theorem TRow.later {w w' : World} {G : Nat} {v : Value} {l : List Nat} (h : TRow w G v l) (hb : Below w.heap.size w w') : TRow w' G v l := by
  obtain ⟨a, c, h1, h2⟩ := h
  refine ⟨a, c, h1, ?_⟩
  rcases h2 with h2 | ⟨g, hg, h3, h4⟩
  · exact .inl h2
  · exact .inr ⟨g, hg, h3, fun j hj => cell_later hb (h4 j hj)⟩

theorem TRow.store {w : World} {G : Nat} {v : Value} {l : List Nat} (h : TRow w G v l) (k : Nat) (u : Value) : TRow (w.setCell ⟨G, k, none⟩ u) G v l := by
  obtain ⟨a, c, h1, h2⟩ := h
  refine ⟨a, c, h1, ?_⟩
  rcases h2 with h2 | ⟨g, hg, h3, h4⟩
  · exact .inl h2
  · refine .inr ⟨g, hg, h3, fun j hj => ?_⟩
    rw [World.cell?_setCell_other _ _ _ _ (by intro e; injection e; omega)]
    exact h4 j hj

/-- The first k rows of the targets are laid. -/
structure Tgs (w wr : World) (N k : Nat) (T : Nat → List Nat) : Prop where
  own : ∃ xs, wr.ownsRow w.heap.size 22 1 (.slice (some ⟨w.heap.size, 0, none⟩) N N) N xs
  rows : ∀ i, i < k → ∃ v, wr.cell? ⟨w.heap.size, i, none⟩ = some v ∧ TRow wr w.heap.size v (T i)
  below : Below w.heap.size w wr

section
variable {w wr : World} {N k : Nat} {T : Nat → List Nat}
theorem Tgs.size (h : Tgs w wr N k T) : w.heap.size < wr.heap.size := by
  obtain ⟨xs, ho⟩ := h.own
  exact (ho.lt _ rfl).2
theorem Tgs.later {w' : World} (h : Tgs w wr N k T) (hb : Below wr.heap.size wr w') : Tgs w w' N k T := by
  refine ⟨?_, fun i hi => ?_, h.below.trans (hb.mono h.below.size)⟩
  · obtain ⟨xs, ho⟩ := h.own
    exact ⟨xs, ho.kept (row := none) ⟨hb.os, hb.tape, hb.output, hb.size, fun k hk _ => hb.block k hk⟩ (.inr (by simp [Value.ownBlock]))⟩
  · obtain ⟨v, h1, h2⟩ := h.rows i hi
    exact ⟨v, cell_later hb h1, h2.later hb⟩
theorem Tgs.cell (h : Tgs w wr N k T) (hk : k < N) : ∃ old, wr.cell? ⟨w.heap.size, k, none⟩ = some old := by
  obtain ⟨xs, ho⟩ := h.own
  have hl := ho.1
  rw [ho.cellAt k (by omega), List.getElem?_eq_getElem (by omega)]
  exact ⟨_, rfl⟩
theorem Tgs.frozen (h : Tgs w wr N k T) : wr.frozen? ⟨w.heap.size, k, none⟩ = false := by
  obtain ⟨xs, ho⟩ := h.own
  exact ho.frozenAt k
theorem Tgs.store (h : Tgs w wr N k T) (hk : k < N) {v : Value} (hv : TRow wr w.heap.size v (T k)) : Tgs w (wr.setCell ⟨w.heap.size, k, none⟩ v) N (k + 1) T := by
  obtain ⟨old, hc⟩ := h.cell hk
  obtain ⟨xs, ho⟩ := h.own
  refine ⟨⟨_, (ho.stored k v).1⟩, fun i hi => ?_, h.below.setCell (Nat.le_refl _) _⟩
  by_cases e : i = k
  · subst e
    exact ⟨v, World.cell?_setCell_same _ _ _ hc, hv.store _ _⟩
  · obtain ⟨v', h1, h2⟩ := h.rows i (by omega)
    refine ⟨v', ?_, h2.store _ _⟩
    rw [World.cell?_setCell_other _ _ _ _ (by intro h; injection h; omega)]
    exact h1
end

/-- What zzHubTargets gives. -/
def TgPost (w : World) (N : Nat) (T : Nat → List Nat) (e : Ending) (w' : World) : Prop := e = .returned (.slice (some ⟨w.heap.size, 0, none⟩) N N) ∧ Tgs w w' N N T

section
variable {w : World} {b off P cap : Nat} {D : ND}

set_option maxRecDepth 100000 in
set_option maxHeartbeats 2000000 in
theorem targets17 (hP : P ≤ 65536) (hL : ∀ i, i < P → (D.nx i).length ≤ 1048576) (hO : ∀ i, i < P → NextOK P i (D.nx i)) (h : Nodes w b off P D) :
    Calls Try.prog 17 #[.slice (some ⟨b, off, none⟩) P cap] w fun e w' => TgPost w (P + 1) (tgt D P) e w' := by
  have HN : Hid (Nodes w b off P D) := h
  have HL : Hid (∀ i, i < P → (D.nx i).length ≤ 1048576) := hL
  have HO : Hid (∀ i, i < P → NextOK P i (D.nx i)) := hO
  clear h hL hO
  obtain ⟨j0, hj, hy0, hy1, hy2⟩ := info_parts info22
  obtain ⟨i0, hi, hz0, hz1, hz2⟩ := info_parts info3
  go_enter Try.func17, Try.ntmps17
  go_wp2_with (at_make; refine wpList_make_full _ rfl _ _ 36 rfl w.heap.size 22 j0 (.slice none 0 0) 1 Try.underlying36 hj hy0 hy1 _ _ _ _ (P + 1) rfl rfl (by omega) (by omega) (by rw [hy2]; omega) (by unfold maxLen; omega) (Nat.le_refl _) ?_)
  intro w1 hown hgrow
  have HT0 : Hid (Tgs w w1 (P + 1) 0 (tgt D P)) := ⟨⟨_, hown⟩, fun i hi => by omega, (Below.refl _ _).grown hgrow (Nat.le_refl _) (fun k hk => by cases hk)⟩
  clear hown hgrow hj hy0 hy1 hy2
  go_wp2_with fail
  go_loopw [5, 6, 8] (fun v5 _ _ wr => ∃ k : Nat, k ≤ P ∧ v5 = .int .i64 k ∧ Hid (Tgs w wr (P + 1) k (tgt D P))) (fun v5 _ _ _ => P - (intOf v5).toNat)
  case atStart => exact ⟨0, by omega, rfl, HT0⟩
  case round =>
    obtain ⟨k, hk, rfl, HT⟩ := hrel
    clear HT0
    by_cases hlt : k < P
    · obtain ⟨wo, rfl⟩ : ∃ wo : World, wo = wr := ⟨_, rfl⟩
      obtain ⟨v, hc, a, c, rfl, hl, hrow⟩ := (HN.out.later HT.out.below).next k hlt
      have c0 := (HN.out.later HT.out.below).into k hlt
      have h1 := HL.out k hlt
      have HR := (show Hid _ from hrow)
      have HOk : Hid (NextOK P k (D.nx k)) := HO.out k hlt
      obtain ⟨n, hn⟩ : ∃ n, n = (D.nx k).length := ⟨_, rfl⟩
      rw [← hn] at hc hl h1 HR
      have HNL : Hid (n = (D.nx k).length) := hn
      clear hn hrow
      have hsz : w.heap.size < wo.heap.size := HT.out.size
      go_wp2_with fail
      go_loopw [6, 8, 27] (fun v6 _ v27 wr => ∃ m : Nat, m ≤ n ∧ v27 = .int .i64 m ∧ Hid (wr.ownsRow wo.heap.size 3 1 v6 m (ints (tl D k m))) ∧ Hid (Below wo.heap.size wo wr)) (fun _ _ v27 _ => n - (intOf v27).toNat)
      case atStart => exact ⟨0, by omega, rfl, (show World.ownsRow _ _ _ _ _ _ _ from World.ownsRow_nil _ _ _ _), Below.refl _ _⟩
      case round =>
        obtain ⟨m, hm, rfl, HW, HB⟩ := hrel
        by_cases hmn : m < n
        · obtain ⟨b1, o1, ha, hcell⟩ : ∃ b1 o1, a = some ⟨b1, o1, none⟩ ∧ ∀ j, j < n → wo.cell? ⟨b1, o1 + j, none⟩ = some (.int .i64 ((D.nx k).getD j 0)) := by
            rcases HR.out with hz | h
            · omega
            · exact h
          have cm : wr.cell? ⟨b1, o1 + m, none⟩ = some (.int .i64 ((D.nx k).getD m 0)) := cell_later HB.out (hcell m hmn)
          have hx0 := HOk.out.low m (by rw [← HNL.out]; exact hmn)
          obtain ⟨x, hx⟩ := Int.eq_ofNat_of_zero_le hx0
          rw [hx] at cm
          have HS : Hid (tl D k (m + 1) = tl D k m ++ [x]) := tl_succ D k m x (by rw [← HNL.out]; exact hmn) hx
          subst ha
          clear hcell hx hx0
          have hbnd : wo.heap.size ≤ wr.heap.size := HB.out.size
          go_wp2_with (at_builtin; refine wpList_append_own _ rfl _ _ 22 rfl wo.heap.size 3 i0 (.int .i64 0) 1 8 Try.underlying22 hi hz0 hz1 hz2 rfl (by decide) _ m _ rfl (HW.out.alloc _) ⟨wr.heap.size, 0, none⟩ 1 1 [.int .i64 (x : Int)] rfl rfl (cell_one_new _ _ _) (fun u hu => by simp at hu; subst hu; rfl) (by unfold maxLen; omega) (by omega) (by simp; omega) ?_)
          intro v' w3 hown hgrow hnil
          have HW1 : Hid (w3.ownsRow wo.heap.size 3 1 v' (m + 1) (ints (tl D k (m + 1)))) := by show World.ownsRow _ _ _ _ _ _ _; rw [HS.out, ← ints_snoc]; exact hown
          have HB1 : Hid (Below wo.heap.size wo w3) := (HB.out.alloc hbnd _).grown hgrow (by simp; omega) (fun g hg => (HW.out.lt g hg).1)
          clear hown hgrow hnil
          go_wp2_with fail
          go_roundw
          case rel => exact ⟨m + 1, by omega, by go_num, HW1, HB1⟩
          case measure => simp [intOf]; omega
        · obtain rfl : m = n := by omega
          have HT1 : Hid (Tgs w wr (P + 1) k (tgt D P)) := HT.out.later HB.out
          have c1 : wr.cell? ⟨b, off + k * 4, none⟩ = some (.bool (D.into k)) := cell_later HB.out c0
          obtain ⟨old, cO⟩ := HT1.out.cell (by omega)
          have fO := HT1.out.frozen
          have HTL : Hid (tl D k m = (D.nx k).map Int.toNat) := by show _ = _; rw [HNL.out]; exact tl_all D k
          cases hin : D.into k with
          | false =>
            rw [hin] at c1
            have HTG : Hid (tgt D P k = tl D k m) := by show _ = _; rw [HTL.out]; simp [tgt, hlt, hin]
            have HV : Hid (TRow wr w.heap.size u6 (tgt D P k)) := by show TRow _ _ _ _; rw [HTG.out]; exact TRow.of_owns hsz HW.out
            obtain ⟨-, a', c', hv, -⟩ := NRow.of_owns HW.out
            clear hin c0 hc
            subst hv
            go_wp2_with fail
            go_roundw
            case rel => exact ⟨k + 1, by omega, by go_num, HT1.out.store (by omega) HV.out⟩
            case measure => simp [intOf]; omega
          | true =>
            rw [hin] at c1
            have HTG : Hid (tgt D P k = tl D k m ++ [P]) := by show _ = _; rw [HTL.out]; simp [tgt, hlt, hin]
            have hbnd : wo.heap.size ≤ wr.heap.size := HB.out.size
            have hG : w.heap.size < wr.heap.size := by omega
            clear hin c0 hc cO fO old
            go_wp2_with (at_builtin; refine wpList_append_own _ rfl _ _ 22 rfl wo.heap.size 3 i0 (.int .i64 0) 1 8 Try.underlying22 hi hz0 hz1 hz2 rfl (by decide) _ m _ rfl (HW.out.alloc _) ⟨wr.heap.size, 0, none⟩ 1 1 [.int .i64 (P : Int)] rfl rfl (cell_one_new _ _ _) (fun u hu => by simp at hu; subst hu; rfl) (by unfold maxLen; omega) (by omega) (by simp; omega) ?_)
            intro v' w3 hown hgrow hnil
            have HB1 : Hid (Below wo.heap.size wo w3) := (HB.out.alloc hbnd _).grown hgrow (by simp; omega) (fun g hg => (HW.out.lt g hg).1)
            have HT2 : Hid (Tgs w w3 (P + 1) k (tgt D P)) := HT.out.later HB1.out
            have HW1 : w3.ownsRow wo.heap.size 3 1 v' (m + 1) (ints (tgt D P k)) := by rw [HTG.out, ← ints_snoc]; exact hown
            have HV : Hid (TRow w3 w.heap.size v' (tgt D P k)) := TRow.of_owns hsz HW1
            obtain ⟨-, a', c', hv, -⟩ := NRow.of_owns HW1
            obtain ⟨old, cO⟩ := HT2.out.cell (by omega)
            have fO := HT2.out.frozen
            clear hown hgrow hnil HW1 c1
            subst hv
            go_wp2_with fail
            go_roundw
            case rel => exact ⟨k + 1, by omega, by go_num, HT2.out.store (by omega) HV.out⟩
            case measure => simp [intOf]; omega
    · obtain rfl : k = P := by omega
      obtain ⟨wo, rfl⟩ : ∃ wo : World, wo = wr := ⟨_, rfl⟩
      have hsz : w.heap.size < wo.heap.size := HT.out.size
      go_wp2_with fail
      go_loopw [9, 10] (fun v9 v10 wr => ∃ m l : Nat, m ≤ k ∧ l ≤ m ∧ v10 = .int .i64 m ∧ Hid (((List.range m).filter D.frm).length = l) ∧ Hid (wr.ownsRow wo.heap.size 3 1 v9 l (ints ((List.range m).filter D.frm))) ∧ Hid (Below wo.heap.size wo wr)) (fun _ v10 _ => k - (intOf v10).toNat)
      case atStart => exact ⟨0, 0, by omega, by omega, rfl, rfl, (show World.ownsRow _ _ _ _ _ _ _ from World.ownsRow_nil _ _ _ _), Below.refl _ _⟩
      case round =>
        obtain ⟨m, l, hm, hlm, rfl, HLN, HW, HB⟩ := hrel
        by_cases hmn : m < k
        · have c1 : wr.cell? ⟨b, off + m * 4 + 1, none⟩ = some (.bool (D.frm m)) := cell_later HB.out ((HN.out.later HT.out.below).frm m hmn)
          have hs : (List.range (m + 1)).filter D.frm = (List.range m).filter D.frm ++ if D.frm m = true then [m] else [] := by rw [List.range_succ, List.filter_append, List.filter_cons, List.filter_nil]
          cases hfr : D.frm m with
          | false =>
            rw [hfr] at c1 hs
            have HS : Hid ((List.range (m + 1)).filter D.frm = (List.range m).filter D.frm) := by show _ = _; simpa using hs
            clear hs hfr
            go_wp2_with fail
            go_roundw
            case rel => exact ⟨m + 1, l, by omega, by omega, by go_num, by show _ = _; rw [HS.out]; exact HLN.out, by show World.ownsRow _ _ _ _ _ _ _; rw [HS.out]; exact HW.out, HB⟩
            case measure => simp [intOf]; omega
          | true =>
            rw [hfr] at c1 hs
            have HS : Hid ((List.range (m + 1)).filter D.frm = (List.range m).filter D.frm ++ [m]) := by show _ = _; simpa using hs
            clear hs hfr
            have hbnd : wo.heap.size ≤ wr.heap.size := HB.out.size
            go_wp2_with (at_builtin; refine wpList_append_own _ rfl _ _ 22 rfl wo.heap.size 3 i0 (.int .i64 0) 1 8 Try.underlying22 hi hz0 hz1 hz2 rfl (by decide) _ l _ rfl (HW.out.alloc _) ⟨wr.heap.size, 0, none⟩ 1 1 [.int .i64 (m : Int)] rfl rfl (cell_one_new _ _ _) (fun u hu => by simp at hu; subst hu; rfl) (by unfold maxLen; omega) (by omega) (by simp; omega) ?_)
            intro v' w3 hown hgrow hnil
            have HW1 : Hid (w3.ownsRow wo.heap.size 3 1 v' (l + 1) (ints ((List.range (m + 1)).filter D.frm))) := by show World.ownsRow _ _ _ _ _ _ _; rw [HS.out, ← ints_snoc]; exact hown
            have HB1 : Hid (Below wo.heap.size wo w3) := (HB.out.alloc hbnd _).grown hgrow (by simp; omega) (fun g hg => (HW.out.lt g hg).1)
            clear hown hgrow hnil
            go_wp2_with fail
            go_roundw
            case rel => exact ⟨m + 1, l + 1, by omega, by omega, by go_num, by show _ = _; rw [HS.out, List.length_append, HLN.out]; rfl, HW1, HB1⟩
            case measure => simp [intOf]; omega
        · obtain rfl : m = k := by omega
          have HT1 : Hid (Tgs w wr (m + 1) m (tgt D m)) := HT.out.later HB.out
          obtain ⟨old, cO⟩ := HT1.out.cell (by omega)
          have fO := HT1.out.frozen
          have HTG : Hid (tgt D m m = (List.range m).filter D.frm) := by show _ = _; simp [tgt]
          have HV : Hid (TRow wr w.heap.size u9 (tgt D m m)) := by show TRow _ _ _ _; rw [HTG.out]; exact TRow.of_owns hsz HW.out
          obtain ⟨-, a', c', hv, -⟩ := NRow.of_owns HW.out
          subst hv
          have hfin : Hid (TgPost w (m + 1) (tgt D m) (.returned (.slice (some ⟨w.heap.size, 0, none⟩) (m + 1) (m + 1))) (wr.setCell ⟨w.heap.size, m, none⟩ (.slice a' ((List.range m).filter D.frm).length c'))) := ⟨rfl, HT1.out.store (by omega) HV.out⟩
          go_wp2_with fail
          go_ret
          exact hfin.out
end

end Go.Proofs.Qxb6612538a
