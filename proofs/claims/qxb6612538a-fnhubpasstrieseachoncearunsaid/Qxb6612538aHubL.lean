import Derived.Test.Qxb6612538aHubK
import Derived.Deep.AppendLies
namespace Go.Proofs.Qxb6612538a
open Go.ChangeShapes Go.WideShapes Go.ChangeAt Go.RowKit

/-- The targets in memory. -/
def TgIn (w : World) (G N : Nat) (T : Nat → List Nat) : Prop := ∀ i, i < N → ∃ v, w.cell? ⟨G, i, none⟩ = some v ∧ NRow w v (T i)
theorem TgIn.later {w w' : World} {G N : Nat} {T : Nat → List Nat} (h : TgIn w G N T) (hb : Below w.heap.size w w') : TgIn w' G N T := fun i hi => by
  obtain ⟨v, h1, h2⟩ := h i hi
  exact ⟨v, cell_later hb h1, h2.later hb⟩
theorem TgIn.at {w : World} {G N : Nat} {T : Nat → List Nat} (h : TgIn w G N T) {k : Nat} (hk : k < N) : ∃ a c, w.cell? ⟨G, k, none⟩ = some (.slice a (T k).length c) ∧
    Hid ((T k).length = 0 ∨ ∃ g, a = some ⟨g, 0, none⟩ ∧ ∀ j, j < (T k).length → w.cell? ⟨g, j, none⟩ = some (.int .i64 (((T k).getD j 0 : Nat) : Int))) := by
  obtain ⟨v, h1, a, c, rfl, h2⟩ := h k hk
  exact ⟨a, c, h1, h2⟩

/-- The graph's rows are laid. -/
structure CsrRows (w' : World) (N hub : Nat) (T : Nat → List Nat) (A S Q : Nat) (sv : Value) : Prop where
  start : Ints w' A (N + 1) (pre T)
  pstart : Ints w' S (N + 1) (lowE (edges T N))
  pred : ∃ fQ, Ints w' Q (pre T N) fQ ∧ ∀ e, e < pre T N → fQ (posE (edges T N) e) = e
  steps : ∃ base, w'.ownsRow base 81 6 sv (pre T N) (flat6 hub (edges T N))
  nil : pre T N = 0 → sv = .slice none 0 0

def CsrPost (w : World) (N hub : Nat) (T : Nat → List Nat) (e : Ending) (w' : World) : Prop :=
  ∃ A S Q sv, e = .returned (.tuple #[.slice (some ⟨A, 0, none⟩) (N + 1) (N + 1), .slice (some ⟨S, 0, none⟩) (N + 1) (N + 1), sv, .slice (some ⟨Q, 0, none⟩) (pre T N) (pre T N)]) ∧ CsrRows w' N hub T A S Q sv ∧ Below w.heap.size w w'

theorem owns_form {w : World} {base e size n : Nat} {v : Value} {xs : List Value} (h : w.ownsRow base e size v n xs) : ∃ a c, v = .slice a n c := by
  rcases h.2 with ⟨rfl, rfl⟩ | ⟨g, cap, _, rfl, _⟩
  · exact ⟨none, 0, rfl⟩
  · exact ⟨_, cap, rfl⟩

theorem st6_one (hub : Nat) (e : Nat × Nat) : ∀ u ∈ st6 hub e, u.oneCell' = true := by
  intro u hu
  simp only [st6, List.mem_cons, List.not_mem_nil, or_false] at hu
  rcases hu with rfl | rfl | rfl | rfl | rfl | rfl <;> rfl

theorem edges_lt {T : Nat → List Nat} {N : Nat} (h : ∀ u, u < N → ∀ j, j < (T u).length → (T u).getD j 0 < N) : ∀ x, x ∈ edges T N → x.2 < N := by
  intro x hx
  obtain ⟨e, he, rfl⟩ := List.mem_iff_getElem.1 hx
  obtain ⟨u, j, hu, hj, rfl⟩ := edges_at T N e he
  have h1 := edges_get T u j N hu hj
  simp only [List.getD, List.getElem?_eq_getElem he, Option.getD_some] at h1
  have h2 := h u hu j hj
  simp only [List.getD] at h2
  rw [h1]
  exact h2

/-! ### The last loop's state -/
structure C6 (wB wr : World) (F Q N M : Nat) (E es : List (Nat × Nat)) : Prop where
  fill : Ints wr F N (fun v => lowE E v + cntE es v)
  pred : ∃ fQ, Ints wr Q M fQ ∧ ∀ e, e < es.length → fQ (posE E e) = e
  below : Below F wB wr

theorem C6.step {wB wr : World} {F Q N M : Nat} {E es : List (Nat × Nat)} {e x u : Nat} (h : C6 wB wr F Q N M E es) (hFQ : F < Q) (he : es = E.take e) (heE : e < E.length) (hx : E.getD e (0, 0) = (u, x)) :
    C6 wB ((wr.setCell ⟨Q, lowE E x + cntE es x, none⟩ (.int .i64 ((e : Nat) : Int))).setCell ⟨F, x, none⟩ (.int .i64 ((lowE E x + cntE es x + 1 : Nat) : Int))) F Q N M E (es ++ [(u, x)]) := by
  have hel : es.length = e := by rw [he, List.length_take]; omega
  have hpos : lowE E x + cntE es x = posE E e := by unfold posE; rw [hx, he]
  obtain ⟨fQ, hq, hf⟩ := h.pred
  have g1 := grown_setCell wr Q (lowE E x + cntE es x) (.int .i64 ((e : Nat) : Int))
  have g2 := grown_setCell (wr.setCell ⟨Q, lowE E x + cntE es x, none⟩ (.int .i64 ((e : Nat) : Int))) F x (.int .i64 ((lowE E x + cntE es x + 1 : Nat) : Int))
  refine ⟨((h.fill.kept g1 (by simp; omega)).store x _).ext (fun v _ => ?_), ⟨_, (hq.store _ e).kept g2 (by simp; omega), fun e' he' => ?_⟩, (h.below.setCell (by simp; omega) _).setCell (Nat.le_refl _) _⟩
  · rw [cntE_snoc]
    by_cases e1 : v = x
    · subst e1; simp; omega
    · have e2 : ¬ x = v := fun h => e1 h.symm
      simp [e1, e2]
  · rw [hpos]
    rw [List.length_append, hel] at he'
    by_cases e1 : e' = e
    · subst e1; simp
    · have h1 : e' < e := by simp at he'; omega
      rw [if_neg (posE_inj E e' e h1 heE)]
      exact hf e' (by omega)

set_option maxRecDepth 100000 in
set_option maxHeartbeats 4000000 in
theorem csr16 {w : World} {G N hub : Nat} {T : Nat → List Nat} (hN : N ≤ 131072) (hM : pre T N ≤ 1048576) (hT : TgIn w G N T) (hv : ∀ u, u < N → ∀ j, j < (T u).length → (T u).getD j 0 < N) :
    Calls Try.prog 16 #[.slice (some ⟨G, 0, none⟩) N N, .int .i64 hub] w fun e w' => CsrPost w N hub T e w' := by
  have HT : Hid (TgIn w G N T) := hT
  have HV : Hid (∀ u, u < N → ∀ j, j < (T u).length → (T u).getD j 0 < N) := hv
  clear hT hv
  obtain ⟨i0, hi, hz0, hz1, hz2⟩ := info_parts info3
  obtain ⟨j0, hj, hy0, hy1, hy2⟩ := info_parts info81
  have HI3 := (show Hid _ from And.intro hi (And.intro hz0 (And.intro hz1 hz2)))
  have HI81 := (show Hid _ from And.intro hj (And.intro hy0 (And.intro hy1 hy2)))
  clear hi hz0 hz1 hz2 hj hy0 hy1 hy2
  go_enter Try.func16, Try.ntmps16
  go_wp2_with (at_make; refine wpList_make_full _ rfl _ _ 22 rfl w.heap.size 3 i0 (.int .i64 0) 1 Try.underlying22 HI3.out.1 HI3.out.2.1 HI3.out.2.2.1 _ _ _ _ (N + 1) rfl rfl (by omega) (by omega) (by rw [HI3.out.2.2.2]; omega) (by unfold maxLen; omega) (Nat.le_refl _) ?_)
  intro w1 hown hgrow
  have A1 : Hid (Ints w1 w.heap.size (N + 1) (fun _ => 0)) := Ints.made hown
  have B1 : Hid (Below w.heap.size w w1) := (Below.refl _ _).grown hgrow (Nat.le_refl _) (fun k hk => by cases hk)
  have hA1 : w.heap.size < w1.heap.size := A1.out.lt
  clear hown hgrow
  go_wp2_with (at_make; refine wpList_make_full _ rfl _ _ 22 rfl w1.heap.size 3 i0 (.int .i64 0) 1 Try.underlying22 HI3.out.1 HI3.out.2.1 HI3.out.2.2.1 _ _ _ _ N rfl rfl (by omega) (by omega) (by rw [HI3.out.2.2.2]; omega) (by unfold maxLen; omega) (Nat.le_refl _) ?_)
  intro w2 hown hgrow
  have HC0 : Hid (C1 w w2 w.heap.size w1.heap.size w2.heap.size N hub 0 T [] [] (.slice none 0 0)) :=
    ⟨(A1.out.kept hgrow (by simp)).ext (fun i _ => by simp), (Ints.made hown).ext (fun i _ => rfl), World.ownsRow_nil _ _ _ _, fun _ => rfl, B1.out.grown hgrow B1.out.size (fun k hk => by cases hk), Nat.le_refl _⟩
  have hC2 : w1.heap.size < w2.heap.size := (Ints.made hown).lt
  clear hown hgrow A1 B1
  obtain ⟨A, HA⟩ : ∃ A, Hid (A = w.heap.size) := ⟨_, rfl⟩
  obtain ⟨C, HCe⟩ : ∃ C, Hid (C = w1.heap.size) := ⟨_, rfl⟩
  obtain ⟨B, HBe⟩ : ∃ B, Hid (B = w2.heap.size) := ⟨_, rfl⟩
  rw [← HA.out, ← HCe.out, ← HBe.out] at HC0
  rw [← HCe.out, ← HBe.out] at hC2
  rw [← HA.out, ← HCe.out] at hA1
  rw [← HA.out, ← HCe.out]
  have hwA : Hid (w.heap.size ≤ A) := by show _ ≤ _; rw [HA.out]; exact Nat.le_refl _
  go_wp2_with fail
  have hAB : A < B := by omega
  have hACne : A ≠ C := by omega
  have hwB : Hid (w.heap.size ≤ B) := by show _ ≤ _; rw [← HA.out]; omega
  have hwC : Hid (w.heap.size ≤ C) := by show _ ≤ _; rw [← HA.out]; omega
  go_loopw [11, 12, 14, 15, 16] (fun v11 v12 _ _ _ wr => ∃ (k n : Nat) (a : Option Addr) (c : Nat), k ≤ N ∧ n ≤ 1048576 ∧ v12 = .int .i64 k ∧ v11 = .slice a n c ∧ Hid (n = pre T k) ∧ Hid (C1 w wr A C B N hub k T (edges T k) (edges T k) (.slice a n c))) (fun _ v12 _ _ _ _ => N - (intOf v12).toNat)
  case atStart => exact ⟨0, 0, none, 0, by omega, by omega, rfl, rfl, rfl, HC0⟩
  case round =>
    obtain ⟨k, n, a, c, hk, hn, rfl, rfl, HNP, HC⟩ := hrel
    clear HC0
    by_cases hlt : k < N
    · obtain ⟨wo, rfl⟩ : ∃ wo : World, wo = wr := ⟨_, rfl⟩
      obtain ⟨ra, rc, cG0, HR⟩ := HT.out.at hlt
      have cG := cell_later HC.out.below cG0
      clear cG0
      have hGlt : G < A := by rw [HA.out]; obtain ⟨_, hcc, _⟩ := HT.out k hlt; exact World.block_lt_of_cell? _ _ hcc
      have cA := HC.out.start.cell k (by omega)
      have fA := HC.out.start.frozen k
      have HLE : Hid ((edges T k).length = n) := by show _ = _; rw [edges_length]; exact HNP.out.symm
      have HM := (show Hid _ from HC.out.mark hACne hAB hwA.out (edges_length T k))
      rw [HLE.out] at HM
      have hpm : pre T k + (T k).length ≤ pre T N := pre_mono T (k + 1) N hlt
      rw [← HNP.out] at hpm
      obtain ⟨m, hm⟩ : ∃ m, m = (T k).length := ⟨_, rfl⟩
      rw [← hm] at cG HR hpm
      have HML : Hid (m = (T k).length) := hm
      clear hm
      obtain ⟨old, hold⟩ : ∃ old : Value, old = .int .i64 (((if k < k then pre T k else 0 : Nat)) : Int) := ⟨_, rfl⟩
      rw [← hold] at cA
      clear hold
      have hmN : m ≤ 1048576 := by omega
      have k0 : (0 : Int) ≤ (k : Int) := by omega
      go_wp2_with fail
      go_loopw [11, 14, 15, 16, 48] (fun v11 _ _ _ v48 wr => ∃ (j n1 : Nat) (a1 : Option Addr) (c1 : Nat), j ≤ m ∧ n1 ≤ n + j ∧ v48 = .int .i64 j ∧ v11 = .slice a1 n1 c1 ∧ Hid ((edgesTo T k j).length = n1) ∧ Hid (C1 w wr A C B N hub (k + 1) T (edgesTo T k j) (edgesTo T k j) (.slice a1 n1 c1))) (fun _ _ _ _ v48 _ => m - (intOf v48).toNat)
      case atStart => exact ⟨0, n, a, c, by omega, by omega, rfl, rfl, by show _ = _; rw [edgesTo_zero]; exact HLE.out, by rw [edgesTo_zero]; exact HM⟩
      case round =>
        obtain ⟨j, n1, a1, c1, hj, hn1, rfl, rfl, HL1, HC1⟩ := hrel
        clear HM
        by_cases hjm : j < m
        · obtain ⟨g, hra, hrow⟩ : ∃ g, ra = some ⟨g, 0, none⟩ ∧ ∀ j, j < m → w.cell? ⟨g, j, none⟩ = some (.int .i64 (((T k).getD j 0 : Nat) : Int)) := by
            rcases HR.out with hz | h
            · omega
            · exact h
          subst hra
          have cx : wr.cell? ⟨g, j, none⟩ = some (.int .i64 (((T k).getD j 0 : Nat) : Int)) := cell_later HC1.out.below (hrow j hjm)
          have hxN : (T k).getD j 0 < N := HV.out k hlt j (by rw [← HML.out]; exact hjm)
          have HSE : Hid (edgesTo T k (j + 1) = edgesTo T k j ++ [(k, (T k).getD j 0)]) := edgesTo_succ T k j (by rw [← HML.out]; exact hjm)
          clear hrow
          generalize (T k).getD j 0 = x at cx hxN HSE
          by_cases hkh : k = hub
          · have e1 : ((k : Int) == (hub : Int)) = true := by simp; omega
            have KH : Hid (k = hub) := hkh
            clear hkh
            go_wp2_with fail
            refine (mk28 k x 3 4 _).mono ?_
            rintro e w4 ⟨rfl, hB4⟩
            have HC4 : Hid (C1 w w4 A C B N hub (k + 1) T (edgesTo T k j) (edgesTo T k j) (.slice a1 n1 c1)) := HC1.out.later hB4
            clear hB4 HC1
            have hsz4 : B ≤ w4.heap.size := HC4.out.size
            have HO4 : Hid (w4.ownsRow B 81 6 (.slice a1 n1 c1) n1 (flat6 hub (edgesTo T k j))) := by have := HC4.out.steps; rw [HL1.out] at this; exact this
            have HSX : Hid (st6 hub (k, x) = [.int .i64 k, .int .i64 x, .int .u8 3, .string ⟨#[]⟩, .bool false, .int .u8 4]) := by show _ = _; simp [st6, KH.out]
            clear cx e1
            go_wp2_with (at_builtin; refine wpList_append_own _ rfl _ _ 33 rfl B 81 j0 (.agg #[.int .i64 0, .int .i64 0, .int .u8 0, .string ByteArray.empty, .bool false, .int .u8 0]) 6 56 Try.underlying33 HI81.out.1 HI81.out.2.1 HI81.out.2.2.1 HI81.out.2.2.2 rfl (by decide) _ n1 _ rfl (HO4.out.alloc _) ⟨w4.heap.size, 0, none⟩ 1 1 [.int .i64 k, .int .i64 x, .int .u8 3, .string ⟨#[]⟩, .bool false, .int .u8 4] rfl rfl (World.news_of_block (heap_alloc_new w4 _)) (by rw [← HSX.out]; exact st6_one hub (k, x)) (by unfold maxLen; omega) (by omega) (by simp; omega) ?_)
            intro v' w5 hown hgrow hnil
            rw [← HSX.out] at hown
            have HC4a : C1 w (w4.alloc (.cells (st6 hub (k, x)).toArray 81)) A C B N hub (k + 1) T (edgesTo T k j) (edgesTo T k j) (.slice a1 n1 c1) := HC4.out.later ((Below.refl _ _).alloc (Nat.le_refl _) _)
            rw [HSX.out] at HC4a
            have HC5 : Hid (C1 w w5 A C B N hub (k + 1) T (edgesTo T k j) (edgesTo T k j ++ [(k, x)]) v') := HC4a.append hAB hC2 hwB.out (by rw [HL1.out]; exact hown) hgrow
            have cC : w5.cell? ⟨C, x, none⟩ = some (.int .i64 ((cntE (edgesTo T k j) x : Nat) : Int)) := HC5.out.count.cell x hxN
            have fC := HC5.out.count.frozen x
            have hcl : cntE (edgesTo T k j) x ≤ 1048576 := by have := cntE_le (edgesTo T k j) x; rw [HL1.out] at this; omega
            have HC6 : Hid (C1 w (w5.setCell ⟨C, x, none⟩ (.int .i64 ((cntE (edgesTo T k j) x + 1 : Nat) : Int))) A C B N hub (k + 1) T (edgesTo T k j ++ [(k, x)]) (edgesTo T k j ++ [(k, x)]) v') := HC5.out.bump (x := (k, x)) hACne hC2 hwC.out
            obtain ⟨a5, c5, hv5⟩ := owns_form hown
            rw [← HSE.out, hv5] at HC6
            rw [hv5]
            clear hown hgrow hnil HC5 HC4 HO4 hv5
            generalize cntE (edgesTo T k j) x = cc at cC hcl HC6
            rw [show ((cc + 1 : Nat) : Int) = (cc : Int) + 1 by omega] at HC6
            go_wp2_with fail
            go_roundw
            case rel => exact ⟨j + 1, n1 + 1, a5, c5, by omega, by omega, by go_num, rfl, by show _ = _; rw [HSE.out, List.length_append, HL1.out]; rfl, HC6⟩
            case measure => simp [intOf]; omega
          · have e1 : ((k : Int) == (hub : Int)) = false := by simp; omega
            have KH : Hid (¬ k = hub) := hkh
            clear hkh
            by_cases hxh : x = hub
            · have e2 : ((x : Int) == (hub : Int)) = true := by simp; omega
              have XH : Hid (x = hub) := hxh
              clear hxh
              go_wp2_with fail
              refine (mk28 k x 3 4 _).mono ?_
              rintro e w4 ⟨rfl, hB4⟩
              have HC4 : Hid (C1 w w4 A C B N hub (k + 1) T (edgesTo T k j) (edgesTo T k j) (.slice a1 n1 c1)) := HC1.out.later hB4
              clear hB4 HC1
              have hsz4 : B ≤ w4.heap.size := HC4.out.size
              have HO4 : Hid (w4.ownsRow B 81 6 (.slice a1 n1 c1) n1 (flat6 hub (edgesTo T k j))) := by have := HC4.out.steps; rw [HL1.out] at this; exact this
              have HSX : Hid (st6 hub (k, x) = [.int .i64 k, .int .i64 x, .int .u8 3, .string ⟨#[]⟩, .bool false, .int .u8 4]) := by show _ = _; simp [st6, XH.out]
              clear cx e1 e2
              go_wp2_with (at_builtin; refine wpList_append_own _ rfl _ _ 33 rfl B 81 j0 (.agg #[.int .i64 0, .int .i64 0, .int .u8 0, .string ByteArray.empty, .bool false, .int .u8 0]) 6 56 Try.underlying33 HI81.out.1 HI81.out.2.1 HI81.out.2.2.1 HI81.out.2.2.2 rfl (by decide) _ n1 _ rfl (HO4.out.alloc _) ⟨w4.heap.size, 0, none⟩ 1 1 [.int .i64 k, .int .i64 x, .int .u8 3, .string ⟨#[]⟩, .bool false, .int .u8 4] rfl rfl (World.news_of_block (heap_alloc_new w4 _)) (by rw [← HSX.out]; exact st6_one hub (k, x)) (by unfold maxLen; omega) (by omega) (by simp; omega) ?_)
              intro v' w5 hown hgrow hnil
              rw [← HSX.out] at hown
              have HC4a : C1 w (w4.alloc (.cells (st6 hub (k, x)).toArray 81)) A C B N hub (k + 1) T (edgesTo T k j) (edgesTo T k j) (.slice a1 n1 c1) := HC4.out.later ((Below.refl _ _).alloc (Nat.le_refl _) _)
              rw [HSX.out] at HC4a
              have HC5 : Hid (C1 w w5 A C B N hub (k + 1) T (edgesTo T k j) (edgesTo T k j ++ [(k, x)]) v') := HC4a.append hAB hC2 hwB.out (by rw [HL1.out]; exact hown) hgrow
              have cC : w5.cell? ⟨C, x, none⟩ = some (.int .i64 ((cntE (edgesTo T k j) x : Nat) : Int)) := HC5.out.count.cell x hxN
              have fC := HC5.out.count.frozen x
              have hcl : cntE (edgesTo T k j) x ≤ 1048576 := by have := cntE_le (edgesTo T k j) x; rw [HL1.out] at this; omega
              have HC6 : Hid (C1 w (w5.setCell ⟨C, x, none⟩ (.int .i64 ((cntE (edgesTo T k j) x + 1 : Nat) : Int))) A C B N hub (k + 1) T (edgesTo T k j ++ [(k, x)]) (edgesTo T k j ++ [(k, x)]) v') := HC5.out.bump (x := (k, x)) hACne hC2 hwC.out
              obtain ⟨a5, c5, hv5⟩ := owns_form hown
              rw [← HSE.out, hv5] at HC6
              rw [hv5]
              clear hown hgrow hnil HC5 HC4 HO4 hv5
              generalize cntE (edgesTo T k j) x = cc at cC hcl HC6
              rw [show ((cc + 1 : Nat) : Int) = (cc : Int) + 1 by omega] at HC6
              go_wp2_with fail
              go_roundw
              case rel => exact ⟨j + 1, n1 + 1, a5, c5, by omega, by omega, by go_num, rfl, by show _ = _; rw [HSE.out, List.length_append, HL1.out]; rfl, HC6⟩
              case measure => simp [intOf]; omega
            · have e2 : ((x : Int) == (hub : Int)) = false := by simp; omega
              have XH : Hid (¬ x = hub) := hxh
              clear hxh
              go_wp2_with fail
              refine (mk28 k x 0 0 _).mono ?_
              rintro e w4 ⟨rfl, hB4⟩
              have HC4 : Hid (C1 w w4 A C B N hub (k + 1) T (edgesTo T k j) (edgesTo T k j) (.slice a1 n1 c1)) := HC1.out.later hB4
              clear hB4 HC1
              have hsz4 : B ≤ w4.heap.size := HC4.out.size
              have HO4 : Hid (w4.ownsRow B 81 6 (.slice a1 n1 c1) n1 (flat6 hub (edgesTo T k j))) := by have := HC4.out.steps; rw [HL1.out] at this; exact this
              have HSX : Hid (st6 hub (k, x) = [.int .i64 k, .int .i64 x, .int .u8 0, .string ⟨#[]⟩, .bool false, .int .u8 0]) := by show _ = _; simp [st6, KH.out, XH.out]
              clear cx e1 e2
              go_wp2_with (at_builtin; refine wpList_append_own _ rfl _ _ 33 rfl B 81 j0 (.agg #[.int .i64 0, .int .i64 0, .int .u8 0, .string ByteArray.empty, .bool false, .int .u8 0]) 6 56 Try.underlying33 HI81.out.1 HI81.out.2.1 HI81.out.2.2.1 HI81.out.2.2.2 rfl (by decide) _ n1 _ rfl (HO4.out.alloc _) ⟨w4.heap.size, 0, none⟩ 1 1 [.int .i64 k, .int .i64 x, .int .u8 0, .string ⟨#[]⟩, .bool false, .int .u8 0] rfl rfl (World.news_of_block (heap_alloc_new w4 _)) (by rw [← HSX.out]; exact st6_one hub (k, x)) (by unfold maxLen; omega) (by omega) (by simp; omega) ?_)
              intro v' w5 hown hgrow hnil
              rw [← HSX.out] at hown
              have HC4a : C1 w (w4.alloc (.cells (st6 hub (k, x)).toArray 81)) A C B N hub (k + 1) T (edgesTo T k j) (edgesTo T k j) (.slice a1 n1 c1) := HC4.out.later ((Below.refl _ _).alloc (Nat.le_refl _) _)
              rw [HSX.out] at HC4a
              have HC5 : Hid (C1 w w5 A C B N hub (k + 1) T (edgesTo T k j) (edgesTo T k j ++ [(k, x)]) v') := HC4a.append hAB hC2 hwB.out (by rw [HL1.out]; exact hown) hgrow
              have cC : w5.cell? ⟨C, x, none⟩ = some (.int .i64 ((cntE (edgesTo T k j) x : Nat) : Int)) := HC5.out.count.cell x hxN
              have fC := HC5.out.count.frozen x
              have hcl : cntE (edgesTo T k j) x ≤ 1048576 := by have := cntE_le (edgesTo T k j) x; rw [HL1.out] at this; omega
              have HC6 : Hid (C1 w (w5.setCell ⟨C, x, none⟩ (.int .i64 ((cntE (edgesTo T k j) x + 1 : Nat) : Int))) A C B N hub (k + 1) T (edgesTo T k j ++ [(k, x)]) (edgesTo T k j ++ [(k, x)]) v') := HC5.out.bump (x := (k, x)) hACne hC2 hwC.out
              obtain ⟨a5, c5, hv5⟩ := owns_form hown
              rw [← HSE.out, hv5] at HC6
              rw [hv5]
              clear hown hgrow hnil HC5 HC4 HO4 hv5
              generalize cntE (edgesTo T k j) x = cc at cC hcl HC6
              rw [show ((cc + 1 : Nat) : Int) = (cc : Int) + 1 by omega] at HC6
              go_wp2_with fail
              go_roundw
              case rel => exact ⟨j + 1, n1 + 1, a5, c5, by omega, by omega, by go_num, rfl, by show _ = _; rw [HSE.out, List.length_append, HL1.out]; rfl, HC6⟩
              case measure => simp [intOf]; omega
        · obtain rfl : j = m := by omega
          have HEN : Hid (edgesTo T k j = edges T (k + 1)) := by show _ = _; rw [HML.out]; exact edgesTo_all T k
          have HCN := HC1
          rw [HEN.out] at HCN
          have HN1 : Hid (n1 = pre T (k + 1)) := by show _ = _; rw [← HL1.out, HEN.out, edges_length]
          go_wp2_with fail
          go_roundw
          case rel => exact ⟨k + 1, n1, a1, c1, by omega, by omega, by go_num, rfl, HN1, HCN⟩
          case measure => simp [intOf]; omega
    · obtain rfl : k = N := by omega
      have cA := HC.out.start.cell k (by omega)
      have fA := HC.out.start.frozen k
      have HLE : Hid ((edges T k).length = n) := by show _ = _; rw [edges_length]; exact HNP.out.symm
      have HM := (show Hid _ from HC.out.mark hACne hAB hwA.out (edges_length T k))
      rw [HLE.out] at HM
      obtain ⟨old, hold⟩ : ∃ old : Value, old = .int .i64 (((if k < k then pre T k else 0 : Nat)) : Int) := ⟨_, rfl⟩
      rw [← hold] at cA
      clear hold
      clear hlt
      go_wp2_with (at_make; refine wpList_make_full _ rfl _ _ 22 rfl wr.heap.size 3 i0 (.int .i64 0) 1 Try.underlying22 HI3.out.1 HI3.out.2.1 HI3.out.2.2.1 _ _ _ _ (k + 1) rfl rfl (by omega) (by omega) (by rw [HI3.out.2.2.2]; omega) (by unfold maxLen; omega) (by simp) ?_)
      intro w3 hown hgrow
      have hsS : (wr.setCell ⟨A, k, none⟩ (.int .i64 ((n : Nat) : Int))).heap.size = wr.heap.size := by simp
      generalize wr.setCell ⟨A, k, none⟩ (.int .i64 ((n : Nat) : Int)) = wA at HM hgrow hsS ⊢
      obtain ⟨S, HSe⟩ : ∃ S, Hid (S = wr.heap.size) := ⟨_, rfl⟩
      rw [← HSe.out] at hown hsS
      rw [← HSe.out]
      have HS0 : Hid (Ints w3 S (k + 1) (fun i => if i < 0 + 1 then lowE (edges T k) i else 0)) := (Ints.made hown).ext (fun i _ => by
        by_cases e : i < 0 + 1
        · obtain rfl : i = 0 := by omega
          simp [lowE_zero]
        · rw [if_neg e])
      have HBA : Hid (Below S wA w3) := by
        show Below _ _ _
        rw [← hsS]
        exact (Below.refl _ _).grown hgrow (Nat.le_refl _) (fun g hg => by cases hg)
      have hBS : B ≤ S := by rw [← hsS]; exact HM.out.size
      have HSW : Hid (wA.heap.size = S) := hsS
      clear hown hgrow hsS cA fA HC old
      have hns : S ≠ A ∧ S ≠ C := by omega
      go_wp2_with fail
      go_loopw [18] (fun v18 wr => ∃ v : Nat, v ≤ k ∧ v18 = .int .i64 v ∧ Hid (Ints wr S (k + 1) (fun i => if i < v + 1 then lowE (edges T k) i else 0)) ∧ Hid (Below S wA wr)) (fun v18 _ => k - (intOf v18).toNat)
      case atStart => exact ⟨0, by omega, rfl, HS0, HBA⟩
      case round =>
        obtain ⟨v, hvk, rfl, HS, HB⟩ := hrel
        clear HS0 HBA
        by_cases hlt : v < k
        · have cS := HS.out.cell v (by omega)
          have cS2 := HS.out.cell (v + 1) (by omega)
          have fS := HS.out.frozen (v + 1)
          have cC : wr.cell? ⟨C, v, none⟩ = some (.int .i64 ((cntE (edges T k) v : Nat) : Int)) := (HB.out.cell (p := ⟨C, v, none⟩) (by simp; omega)).trans (HM.out.count.cell v hlt)
          rw [if_pos (show v < v + 1 by omega)] at cS
          rw [if_neg (show ¬ v + 1 < v + 1 by omega)] at cS2
          have hsum : lowE (edges T k) v + cntE (edges T k) v ≤ 1048576 := by
            rw [← lowE_succ]
            have := List.length_filter_le (fun e : Nat × Nat => decide (e.2 < v + 1)) (edges T k)
            rw [edges_length] at this
            unfold lowE
            omega
          have HS2 : Hid (Ints (wr.setCell ⟨S, v + 1, none⟩ (.int .i64 ((lowE (edges T k) v + cntE (edges T k) v : Nat) : Int))) S (k + 1) (fun i => if i < v + 1 + 1 then lowE (edges T k) i else 0)) := (HS.out.store (v + 1) (lowE (edges T k) v + cntE (edges T k) v)).ext (fun i _ => by
            by_cases e : i = v + 1
            · subst e; rw [if_pos rfl, if_pos (by omega), lowE_succ]
            · rw [if_neg e]
              by_cases e2 : i < v + 1
              · rw [if_pos e2, if_pos (by omega)]
              · rw [if_neg e2, if_neg (by omega)])
          have HB2 : Hid (Below S wA (wr.setCell ⟨S, v + 1, none⟩ (.int .i64 ((lowE (edges T k) v + cntE (edges T k) v : Nat) : Int)))) := HB.out.setCell (Nat.le_refl _) _
          clear HS HB
          generalize lowE (edges T k) v = p at cS hsum HS2 HB2
          generalize cntE (edges T k) v = q at cC hsum HS2 HB2
          rw [show ((p + q : Nat) : Int) = (p : Int) + (q : Int) by omega] at HS2 HB2
          have v0 : (0 : Int) ≤ (v : Int) := by omega
          have v1 : (v : Int) < (k : Int) := by omega
          have v2 : (v : Int) < (k : Int) + 1 := by omega
          have v3 : (v : Int) + 1 < (k : Int) + 1 := by omega
          go_wp2_with fail
          go_region
          go_wp2_with fail
          go_roundw
          case rel => exact ⟨v + 1, by omega, by go_num, HS2, below_drewN HB2.out 1⟩
          case measure => simp [intOf]; omega
        · obtain rfl : v = k := by omega
          have HS1 : Hid (Ints wr S (v + 1) (lowE (edges T v))) := HS.out.ext (fun i hi => by rw [if_pos hi])
          obtain ⟨wB, rfl⟩ : ∃ wB : World, wB = wr := ⟨_, rfl⟩
          have hSB : S < wB.heap.size := HS1.out.lt
          clear HS hlt
          go_wp2_with (at_make; refine wpList_make_full _ rfl _ _ 22 rfl wB.heap.size 3 i0 (.int .i64 0) 1 Try.underlying22 HI3.out.1 HI3.out.2.1 HI3.out.2.2.1 _ _ _ _ v rfl rfl (by omega) (by omega) (by rw [HI3.out.2.2.2]; omega) (by unfold maxLen; omega) (Nat.le_refl _) ?_)
          intro w5 hown hgrow
          obtain ⟨F, HFe⟩ : ∃ F, Hid (F = wB.heap.size) := ⟨_, rfl⟩
          rw [← HFe.out] at hown hSB
          rw [← HFe.out]
          have HF0 : Hid (Ints w5 F v (fun i => if i < 0 then lowE (edges T v) i else 0)) := (Ints.made hown).ext (fun i _ => by rw [if_neg (by omega)])
          have HB0 : Hid (Below F wB w5) := by show Below _ _ _; rw [HFe.out]; exact (Below.refl _ _).grown hgrow (Nat.le_refl _) (fun g hg => by cases hg)
          clear hown hgrow
          go_wp2_with fail
          go_loopw [20] (fun v20 wr => ∃ t : Nat, t ≤ v ∧ v20 = .int .i64 t ∧ Hid (Ints wr F v (fun i => if i < t then lowE (edges T v) i else 0)) ∧ Hid (Below F wB wr)) (fun v20 _ => v - (intOf v20).toNat)
          case atStart => exact ⟨0, by omega, rfl, HF0, HB0⟩
          case round =>
            obtain ⟨t, htv, rfl, HF, HBf⟩ := hrel
            clear HF0 HB0
            by_cases hlt : t < v
            · have cS : wr.cell? ⟨S, t, none⟩ = some (.int .i64 ((lowE (edges T v) t : Nat) : Int)) := (HBf.out.cell (p := ⟨S, t, none⟩) (by simp; omega)).trans (HS1.out.cell t (by omega))
              have cF := HF.out.cell t hlt
              have fF := HF.out.frozen t
              rw [if_neg (show ¬ t < t by omega)] at cF
              have HF2 : Hid (Ints (wr.setCell ⟨F, t, none⟩ (.int .i64 ((lowE (edges T v) t : Nat) : Int))) F v (fun i => if i < t + 1 then lowE (edges T v) i else 0)) := (HF.out.store t (lowE (edges T v) t)).ext (fun i _ => by
                by_cases e : i = t
                · subst e; rw [if_pos rfl, if_pos (by omega)]
                · rw [if_neg e]
                  by_cases e2 : i < t
                  · rw [if_pos e2, if_pos (by omega)]
                  · rw [if_neg e2, if_neg (by omega)])
              have HB2 : Hid (Below F wB (wr.setCell ⟨F, t, none⟩ (.int .i64 ((lowE (edges T v) t : Nat) : Int)))) := HBf.out.setCell (Nat.le_refl _) _
              clear HF HBf
              generalize lowE (edges T v) t = p at cS HF2 HB2
              go_wp2_with fail
              go_roundw
              case rel => exact ⟨t + 1, by omega, by go_num, HF2, HB2⟩
              case measure => simp [intOf]; omega
            · obtain rfl : t = v := by omega
              have HF1 : Hid (Ints wr F t (lowE (edges T t))) := HF.out.ext (fun i hi => by rw [if_pos hi])
              have hFr : F < wr.heap.size := HF1.out.lt
              clear HF hlt
              go_wp2_with (at_make; refine wpList_make_full _ rfl _ _ 22 rfl wr.heap.size 3 i0 (.int .i64 0) 1 Try.underlying22 HI3.out.1 HI3.out.2.1 HI3.out.2.2.1 _ _ _ _ n rfl rfl (by omega) (by omega) (by rw [HI3.out.2.2.2]; omega) (by unfold maxLen; omega) (Nat.le_refl _) ?_)
              intro w7 hown hgrow
              obtain ⟨Q, HQe⟩ : ∃ Q, Hid (Q = wr.heap.size) := ⟨_, rfl⟩
              rw [← HQe.out] at hown hFr
              rw [← HQe.out]
              have HC60 : Hid (C6 wB w7 F Q t n (edges T t) (edges T 0)) := ⟨(HF1.out.kept hgrow (by simp)).ext (fun i _ => by simp [edges, cntE]), ⟨_, Ints.made hown, fun e he => by simp [edges] at he⟩, HBf.out.grown hgrow (by rw [HFe.out]; exact HBf.out.size) (fun g hg => by cases hg)⟩
              clear hown hgrow HF1 HBf
              go_wp2_with fail
              go_loopw [22, 23, 25] (fun v22 v23 _ wr => ∃ u e : Nat, u ≤ t ∧ v23 = .int .i64 u ∧ v22 = .int .i64 e ∧ e ≤ n ∧ Hid (e = pre T u) ∧ Hid (C6 wB wr F Q t n (edges T t) (edges T u))) (fun _ v23 _ _ => t - (intOf v23).toNat)
              case atStart => exact ⟨0, 0, by omega, rfl, rfl, by omega, rfl, HC60⟩
              case round =>
                obtain ⟨u, e, hut, rfl, rfl, hen, HEP, H6⟩ := hrel
                clear HC60
                by_cases hlt : u < t
                · obtain ⟨ra, rc, cG0, HR⟩ := HT.out.at hlt
                  have hGlt : G < A := by rw [HA.out]; exact World.block_lt_of_cell? _ _ cG0
                  have HBW : Hid (Below w.heap.size w wr) := (HM.out.below.trans (HB.out.mono (by rw [← HA.out]; omega))).trans (H6.out.below.mono (by rw [← HA.out]; omega))
                  have cG := cell_later HBW.out cG0
                  clear cG0
                  have hpm : pre T u + (T u).length ≤ pre T t := pre_mono T (u + 1) t hlt
                  rw [← HEP.out, ← HNP.out] at hpm
                  obtain ⟨m, hm⟩ : ∃ m, m = (T u).length := ⟨_, rfl⟩
                  rw [← hm] at cG HR hpm
                  have HML : Hid (m = (T u).length) := hm
                  clear hm
                  have u0 : (0 : Int) ≤ (u : Int) := by omega
                  go_wp2_with fail
                  go_loopw [22, 25, 128] (fun v22 _ v128 wr => ∃ j e1 : Nat, j ≤ m ∧ v128 = .int .i64 j ∧ v22 = .int .i64 e1 ∧ e1 ≤ e + j ∧ Hid (e1 = pre T u + j) ∧ Hid (C6 wB wr F Q t n (edges T t) (edgesTo T u j))) (fun _ _ v128 _ => m - (intOf v128).toNat)
                  case atStart => exact ⟨0, e, by omega, rfl, rfl, by omega, HEP, by rw [edgesTo_zero]; exact H6⟩
                  case round =>
                    obtain ⟨j, e1, hj, rfl, rfl, he1, HE1, H61⟩ := hrel
                    clear H6
                    by_cases hjm : j < m
                    · obtain ⟨g, hra, hrow⟩ : ∃ g, ra = some ⟨g, 0, none⟩ ∧ ∀ j, j < m → w.cell? ⟨g, j, none⟩ = some (.int .i64 (((T u).getD j 0 : Nat) : Int)) := by
                        rcases HR.out with hz | h
                        · omega
                        · exact h
                      subst hra
                      have HBW1 : Hid (Below w.heap.size w wr) := (HM.out.below.trans (HB.out.mono (by rw [← HA.out]; omega))).trans (H61.out.below.mono (by rw [← HA.out]; omega))
                      have cx : wr.cell? ⟨g, j, none⟩ = some (.int .i64 (((T u).getD j 0 : Nat) : Int)) := cell_later HBW1.out (hrow j hjm)
                      have hjl : j < (T u).length := by rw [← HML.out]; exact hjm
                      have hxN : (T u).getD j 0 < t := HV.out u hlt j hjl
                      have HSE : Hid (edgesTo T u (j + 1) = edgesTo T u j ++ [(u, (T u).getD j 0)]) := edgesTo_succ T u j hjl
                      have HG : (edges T t).getD e1 (0, 0) = (u, (T u).getD j 0) := by rw [HE1.out]; exact edges_get T u j t hlt hjl
                      have HTake : edgesTo T u j = (edges T t).take e1 := by rw [HE1.out]; exact (edgesTo_take T u j t hlt (by omega)).symm
                      have hel : e1 < (edges T t).length := by rw [edges_length, ← HNP.out]; omega
                      have H62 := (show Hid _ from H61.out.step hFr HTake hel HG)
                      have hp := posE_lt (edges T t) t e1 hel (edges_lt HV.out)
                      rw [edges_length, ← HNP.out] at hp
                      have hpe : posE (edges T t) e1 = lowE (edges T t) ((T u).getD j 0) + cntE (edgesTo T u j) ((T u).getD j 0) := by unfold posE; rw [HG, HTake]
                      rw [hpe] at hp
                      have cF := H61.out.fill.cell ((T u).getD j 0) hxN
                      have fF := H61.out.fill.frozen ((T u).getD j 0)
                      have cQ : ∃ old, wr.cell? ⟨Q, lowE (edges T t) ((T u).getD j 0) + cntE (edgesTo T u j) ((T u).getD j 0), none⟩ = some old := by
                        obtain ⟨fQ, hq, _⟩ := H61.out.pred
                        exact ⟨_, hq.cell _ hp⟩
                      obtain ⟨old, cQ⟩ := cQ
                      have fQ : wr.frozen? ⟨Q, lowE (edges T t) ((T u).getD j 0) + cntE (edgesTo T u j) ((T u).getD j 0), none⟩ = false := by
                        obtain ⟨fQ, hq, _⟩ := H61.out.pred
                        exact hq.frozen _
                      rw [← HSE.out] at H62
                      clear hpe HG HTake hrow H61 HSE hel
                      generalize lowE (edges T t) ((T u).getD j 0) + cntE (edgesTo T u j) ((T u).getD j 0) = p at cF cQ fQ hp H62
                      generalize (T u).getD j 0 = x at cx hxN cF fF H62
                      rw [show ((p + 1 : Nat) : Int) = (p : Int) + 1 by omega] at H62
                      go_wp2_with fail
                      go_roundw
                      case rel => exact ⟨j + 1, e1 + 1, by omega, by go_num, by go_num, by omega, by show _ = _; rw [HE1.out]; rfl, H62⟩
                      case measure => simp [intOf]; omega
                    · obtain rfl : j = m := by omega
                      have HEN : Hid (edgesTo T u j = edges T (u + 1)) := by show _ = _; rw [HML.out]; exact edgesTo_all T u
                      rw [HEN.out] at H61
                      have HE2 : Hid (e1 = pre T (u + 1)) := by show _ = _; rw [HE1.out, HML.out]; rfl
                      go_wp2_with fail
                      go_roundw
                      case rel => exact ⟨u + 1, e1, by omega, by go_num, rfl, by omega, HE2, H61⟩
                      case measure => simp [intOf]; omega
                · obtain rfl : u = t := by omega
                  have HBB : Below wA.heap.size wA wr := by rw [HSW.out]; exact HB.out.trans (H6.out.below.mono (by omega))
                  have HF := HM.out.later HBB
                  have hfin : Hid (CsrPost w u hub T (.returned (.tuple #[.slice (some ⟨A, 0, none⟩) (u + 1) (u + 1), .slice (some ⟨S, 0, none⟩) (u + 1) (u + 1), .slice a n c, .slice (some ⟨Q, 0, none⟩) n n])) wr) := by
                    refine ⟨A, S, Q, .slice a n c, by rw [← HNP.out], ⟨HF.start.ext (fun i hi => by rw [if_pos hi]), HS1.out.later ?_, ?_, ⟨B, ?_⟩, fun h0 => HF.nil (by rw [edges_length]; exact h0)⟩, HF.below⟩
                    · have := H6.out.below
                      rw [HFe.out] at this
                      exact this
                    · obtain ⟨fQ, hq, hf⟩ := H6.out.pred
                      rw [← HNP.out]
                      exact ⟨fQ, hq, fun e' he' => hf e' (by rw [edges_length, ← HNP.out]; exact he')⟩
                    · have := HF.steps
                      rw [edges_length] at this
                      exact this
                  clear HF HBB
                  go_wp2_with fail
                  exact bodyPost_ret (v := .tuple #[.slice (some ⟨A, 0, none⟩) (u + 1) (u + 1), .slice (some ⟨S, 0, none⟩) (u + 1) (u + 1), .slice a n c, .slice (some ⟨Q, 0, none⟩) n n]) (by simp [results, Try.results16, go_sem]) rfl hfin.out

end Go.Proofs.Qxb6612538a
