import Derived.Test.Qxb6612538aHubV
import Derived.Test.Qxb6612538aHubY
namespace Go.Proofs.Qxb6612538a
open Go.ChangeShapes Go.WideShapes Go.ChangeAt Go.RowKit

theorem NRow.block {w w' : World} {v : Value} {l : List Nat} (h : NRow w v l) (hb : ∀ g, v.ownBlock = some g → w'.heap[g]? = w.heap[g]?) : NRow w' v l := by
  obtain ⟨a, c, rfl, h2⟩ := h
  refine ⟨a, c, rfl, ?_⟩
  rcases h2 with h2 | ⟨g, rfl, h3⟩
  · exact .inl h2
  · exact .inr ⟨g, rfl, fun j hj => (World.cell?_of_block (hb g (by simp [Value.ownBlock]))).trans (h3 j hj)⟩

theorem NRow.setOther {w : World} {v : Value} {l : List Nat} (h : NRow w v l) {R : Nat} (hl : ∀ g, v.ownBlock = some g → g < w.heap.size ∧ g ≠ R) (k : Nat) (u : Value) : NRow (w.setCell ⟨R, k, none⟩ u) v l :=
  h.block fun g hg => (grown_setCell w R k u).block g (hl g hg).1 (by simp; exact (hl g hg).2)

set_option maxRecDepth 100000 in
set_option maxHeartbeats 8000000 in
theorem law6 {w : World} {b off P cap : Nat} {D : ND} (hP : P ≤ 9223372036854775807) (h : Nodes w b off P D) (n1' n2' low : Int) (fwd : Bool) :
    Calls Try.prog 6 #[.slice (some ⟨b, off, none⟩) P cap, .int .i64 n1', .int .i64 n2', .int .i64 low, .bool fwd] w fun e w' => Law w e w' := by
  have HN : Hid (Nodes w b off P D) := h
  have HW : Hid (Law w (.returned (.bool true)) w) := ⟨rfl, Below.refl _ _⟩
  clear h
  go_enter Try.func6, Try.ntmps6
  go_wp2_with fail
  refine (bytes24 hP HN.out n1' n2' low fwd).mono ?_
  rintro e w1 ⟨⟨b1, rfl, hb1⟩, hw⟩
  subst w1
  cases b1 with
  | false =>
    clear hb1
    go_wp2_with fail
    go_ret
    exact HW.out
  | true =>
    have HLn : Hid (LenOK D P) := hb1 rfl
    have hPs0 : P ≤ 1048576 := HLn.out.1
    have HL : Hid (∀ i, i < P → (D.nx i).length ≤ 1048576) := HLn.out.2
    clear hb1 HLn hP
    go_wp2_with fail
    refine (ok13 hPs0 HL.out HN.out).mono ?_
    rintro e w1 ⟨⟨b1, rfl, hb1⟩, hw⟩
    subst w1
    cases b1 with
    | false =>
      clear hb1
      go_wp2_with fail
      go_ret
      exact HW.out
    | true =>
      have HT : Hid (tot D P ≤ 1048576) := hb1 rfl
      have hPs : P ≤ 32768 := (pre_small HT.out).2
      have HPs : Hid (P ≤ 65536) := by show _ ≤ _; omega
      have HP1 : Hid (P + 1 ≤ 131072 ∧ pre (tgt D P) (P + 1) ≤ 1048576) := by have := (pre_small HT.out).1; exact ⟨by omega, by omega⟩
      clear hb1
      by_cases hn0 : n1' < 0
      · go_wp2_with fail
        go_ret
        exact HW.out
      by_cases hnP : (P : Int) ≤ n1'
      · go_wp2_with fail
        go_ret
        exact HW.out
      by_cases hn2 : n2' < 0
      · go_wp2_with fail
        go_ret
        exact HW.out
      by_cases hn2P : (P : Int) ≤ n2'
      · go_wp2_with fail
        go_ret
        exact HW.out
      obtain ⟨n1, rfl⟩ : ∃ m : Nat, n1' = m := ⟨n1'.toNat, by omega⟩
      obtain ⟨n2, rfl⟩ : ∃ m : Nat, n2' = m := ⟨n2'.toNat, by omega⟩
      have hm1 : n1 < P := by omega
      have hm2 : n2 < P := by omega
      clear hn0 hn2
      go_wp2_with fail
      refine (ok14 hPs0 HL.out HN.out).mono ?_
      rintro e w1 ⟨⟨b1, rfl, hb1⟩, hw⟩
      subst w1
      cases b1 with
      | false =>
        clear hb1
        go_wp2_with fail
        go_ret
        exact HW.out
      | true =>
        have HO : Hid (∀ i, i < P → NextOK P i (D.nx i)) := hb1 rfl
        have HI : Hid (∀ i, i < P → Incr (D.nx i) ∧ (D.nx i).length ≤ 1048576) := fun i hi => ⟨(HO.out i hi).sorted, HL.out i hi⟩
        clear hb1
        go_wp2_with fail
        refine (near15 HN.out n1 hm1 fwd).mono ?_
        rintro e w1 ⟨⟨b1, rfl⟩, hw⟩
        subst w1
        cases b1 with
        | false =>
          go_wp2_with fail
          go_ret
          exact HW.out
        | true =>
          go_wp2_with fail
          refine (near15 HN.out n2 hm2 fwd).mono ?_
          rintro e w1 ⟨⟨b1, rfl⟩, hw⟩
          subst w1
          cases b1 with
          | false =>
            go_wp2_with fail
            go_ret
            exact HW.out
          | true =>
            go_wp2_with fail
            refine (targets17 HPs.out HL.out HO.out HN.out).mono ?_
            rintro e wT ⟨rfl, hT⟩
            have hTB := hT.below
            have HTi : Hid (TgIn wT w.heap.size (P + 1) (tgt D P)) := TgIn.of hT
            have HB1 : Hid (Below w.heap.size w wT) := hTB
            clear hT hTB
            go_wp2_with fail
            refine (csr16 (hub := P) HP1.out.1 HP1.out.2 HTi.out (tgt_lt HO.out)).mono ?_
            rintro e wC ⟨A, S, Qq, sv, rfl, hrows, hB2⟩
            obtain ⟨sb, hsv⟩ := hrows.steps
            obtain ⟨sa, sc, hsa⟩ := owns_form hsv
            subst hsa
            have HR : Hid (CsrRows wC (P + 1) P (tgt D P) A S Qq (.slice sa (pre (tgt D P) (P + 1)) sc)) := hrows
            have HB2 : Hid (Below w.heap.size w wC) := HB1.out.trans (hB2.mono HB1.out.size)
            clear hrows hB2 hsv HTi HB1
            go_wp2_with fail
            refine (graph18 _ _ _ _ _ _ _ _ _ _ _ _ P wC).mono ?_
            rintro e wG ⟨Gr, rfl, hgr, hB3, hGr⟩
            have HG : Hid (Graph wG Gr A S Qq sa sc P (pre (tgt D P) (P + 1)) (tgt D P) (frE D P) (toE D P) (lowE (edges (tgt D P) (P + 1)) P) (intoP D P)) := graph_of HO.out HT.out (HR.out.later hB3) hgr
            have HB3 : Hid (Below w.heap.size w wG) := HB2.out.trans (hB3.mono HB2.out.size)
            clear hgr hB3 hGr HB2 HR
            go_wp2_with fail
            refine (runs19 Gr wG).mono ?_
            rintro e wR ⟨R, Ca, Ke, Wa, rfl, hhub, hB4, r1, r2, r3, r4, r5, r6, r7, r8, r9, r10⟩
            have HRu : Hid (RunsPost wG Gr (.returned (.pointer (some ⟨R, 0, none⟩))) wR) := ⟨R, Ca, Ke, Wa, rfl, hhub, hB4, r1, r2, r3, r4, r5, r6, r7, r8, r9, r10⟩
            have HHu : Hid (Hub wR R Gr Ca Ke Wa 1 0 false (.slice none 0 0) ∧ Below wG.heap.size wG wR ∧ wG.heap.size ≤ R ∧ wG.heap.size ≤ Ca ∧ wG.heap.size ≤ Ke ∧ wG.heap.size ≤ Wa ∧ R ≠ Ca ∧ R ≠ Ke ∧ R ≠ Wa ∧ Ca ≠ Ke ∧ Ca ≠ Wa ∧ Ke ≠ Wa) := ⟨hhub, hB4, r1, r2, r3, r4, r5, r6, r7, r8, r9, r10⟩
            clear hhub hB4 r1 r2 r3 r4 r5 r6 r7 r8 r9 r10 HRu
            have HNR := (show Hid _ from HN.out.later (HB3.out.trans (HHu.out.2.1.mono HB3.out.size)))
            go_wp2_with fail
            refine (accepts20 HPs.out HNR.out).mono ?_
            rintro e wA ⟨rfl, hac, hB5, hAl⟩
            obtain ⟨Ac, HAc⟩ : ∃ Ac, Hid (wR.heap.size = Ac) := ⟨_, rfl⟩
            have HH0 : Hid (HP wG wA D P R Gr Ca Ke Wa Ac 1 0 false (.slice none 0 0) []) := by rw [← HAc.out]; exact HP.start HHu.out hac hB5 hAl
            rw [HAc.out]
            clear hac hB5 hAl HHu HNR HAc
            go_wp2_with fail
            refine (hubFresh (p := fun _ => False) HO.out HPs.out HG.out HH0.out (by decide) (fun _ hk => hk.elim) hm1 low fwd).mono ?_
            rintro e w1 ⟨tv1, v1, rfl, hp1, hr1, ht1, _⟩
            have HH1 : Hid (HP wG w1 D P R Gr Ca Ke Wa Ac 1 1 (modelK D low fwd P) v1 ((cl D P fwd low).filter fun m => D.acc m && !jb (tgt D P) fwd n1 m)) := hp1
            have HR1 : Hid (NRow w1 tv1 (modelL D low fwd n1 P)) := hr1
            have HT1 : Hid (∀ g, tv1.ownBlock = some g → g < w1.heap.size ∧ g ≠ R ∧ g ≠ Ca ∧ g ≠ Ke ∧ g ≠ Wa ∧ g ≠ Ac ∧ v1.ownBlock ≠ some g) := ht1
            obtain ⟨kk, hkk⟩ : ∃ kk : Bool, kk = modelK D low fwd P := ⟨_, rfl⟩
            have HKk : Hid (kk = modelK D low fwd P) := hkk
            rw [← hkk]
            clear hp1 hr1 ht1 hkk HH0
            go_wp2_with fail
            refine (hubAgain (p := fun k => tv1.ownBlock = some k) HG.out HH1.out (fun k hk => ⟨(HT1.out k hk).1, (HT1.out k hk).2.2.1, (HT1.out k hk).2.2.2.1, (HT1.out k hk).2.2.2.2.1, (HT1.out k hk).2.2.2.2.2.2⟩) hm2 low fwd).mono ?_
            rintro e w2 ⟨tv2, v2, rfl, hp2, hr2, ht2, hk2⟩
            have HK2 : Hid ((modelK D low fwd P || ((cl D P fwd low).filter fun m => D.acc m && !jb (tgt D P) fwd n1 m).any D.acc) = kk) := by
              have h := cl_second_any (D := D) (P := P) (tgt D P) fwd low n1
              rw [cl_any] at h
              exact h.trans HKk.out.symm
            obtain ⟨kz, v2', W2, HH2⟩ : ∃ kz v2' W2, Hid (HP wG w2 D P R Gr Ca Ke Wa Ac 1 1 kz v2' W2 ∧ v2' = v2) := ⟨_, _, _, hp2, rfl⟩
            have HR2 : Hid (NRow w2 tv2 ((modelL D low fwd n2 P).filter fun m => !jn D fwd n1 m)) := by rw [← cl_second HO.out fwd low hm1 hm2]; exact hr2
            have HR12 : Hid (NRow w2 tv1 (modelL D low fwd n1 P)) := HR1.out.block (fun g hg => (hk2 g hg).1.2)
            have HT2 : Hid (∀ k, (tv1.ownBlock = some k ∨ tv2.ownBlock = some k) → k < w2.heap.size ∧ k ≠ R ∧ k ≠ Ca ∧ k ≠ Ke ∧ k ≠ Wa ∧ v2'.ownBlock ≠ some k) := by
              rintro k (hk | hk)
              · have h1 := HT1.out k hk
                have h2 := hk2 k hk
                exact ⟨h2.1.1, h1.2.1, h1.2.2.1, h1.2.2.2.1, h1.2.2.2.2.1, by rw [HH2.out.2]; exact h2.2⟩
              · have h1 := ht2 k hk
                exact ⟨h1.1, h1.2.1, h1.2.2.1, h1.2.2.2.1, h1.2.2.2.2.1, by rw [HH2.out.2]; exact h1.2.2.2.2.2.2⟩
            rw [HK2.out]
            clear hp2 hr2 ht2 hk2 HH1 HR1 HT1 HK2
            go_wp2_with fail
            refine (setRun25 HH2.out.1 2).mono ?_
            rintro e w3 ⟨rfl, hw3⟩
            have HH3 : Hid (HP wG w3 D P R Gr Ca Ke Wa Ac 2 1 kz v2' W2) := by rw [hw3]; exact HH2.out.1.setRun 2
            have HR23 : Hid (NRow w3 tv2 ((modelL D low fwd n2 P).filter fun m => !jn D fwd n1 m)) := by rw [hw3]; exact HR2.out.setOther (fun g hg => ⟨(HT2.out g (.inr hg)).1, (HT2.out g (.inr hg)).2.1⟩) _ _
            have HR13 : Hid (NRow w3 tv1 (modelL D low fwd n1 P)) := by rw [hw3]; exact HR12.out.setOther (fun g hg => ⟨(HT2.out g (.inl hg)).1, (HT2.out g (.inl hg)).2.1⟩) _ _
            have HT3 : Hid (∀ k, (tv1.ownBlock = some k ∨ tv2.ownBlock = some k) → k < w3.heap.size ∧ k ≠ Ca ∧ k ≠ Ke ∧ k ≠ Wa ∧ v2'.ownBlock ≠ some k) := fun k hk => by
              have h1 := HT2.out k hk
              exact ⟨by rw [hw3]; simpa using h1.1, h1.2.2.1, h1.2.2.2.1, h1.2.2.2.2.1, h1.2.2.2.2.2⟩
            clear hw3 HH2 HR2 HR12 HT2
            go_wp2_with fail
            refine (hubFresh (p := fun k => tv1.ownBlock = some k ∨ tv2.ownBlock = some k) HO.out HPs.out HG.out HH3.out (by decide) HT3.out hm2 low fwd).mono ?_
            rintro e w4 ⟨tv3, v3, rfl, hp4, hr4, _, hk4⟩
            have HR34 : Hid (NRow w4 tv3 (modelL D low fwd n2 P)) := hr4
            have HR24 : Hid (NRow w4 tv2 ((modelL D low fwd n2 P).filter fun m => !jn D fwd n1 m)) := HR23.out.block (fun g hg => (hk4 g (.inr hg)).1.2)
            have HR14 : Hid (NRow w4 tv1 (modelL D low fwd n1 P)) := HR13.out.block (fun g hg => (hk4 g (.inl hg)).1.2)
            have HB4 : Hid (Below w.heap.size w w4) := HB3.out.trans (hp4.below.mono HB3.out.size)
            have HN4 := (show Hid _ from HN.out.later HB4.out)
            rw [← HKk.out]
            clear hp4 hr4 hk4 HH3 HR23 HR13 HT3 HG HB3
            go_wp2_with fail
            refine (model22 HPs.out HN4.out HI.out n1 hm1 low fwd).mono ?_
            rintro e w5 ⟨mv1, rfl, hmo, hB5⟩
            have HRs5 : Hid (NRow w5 tv1 (modelL D low fwd n1 P) ∧ NRow w5 tv2 ((modelL D low fwd n2 P).filter fun m => !jn D fwd n1 m) ∧ NRow w5 tv3 (modelL D low fwd n2 P) ∧ NRow w5 mv1 (modelL D low fwd n1 P)) := ⟨HR14.out.later hB5, HR24.out.later hB5, HR34.out.later hB5, (NRow.of_owns hmo).2⟩
            have HB5 : Hid (Below w.heap.size w w5) := HB4.out.trans (hB5.mono HB4.out.size)
            have HN5 := (show Hid _ from HN.out.later HB5.out)
            rw [← HKk.out]
            clear hmo hB5 HR14 HR24 HR34 HB4 HN4
            go_wp2_with fail
            refine (model22 HPs.out HN5.out HI.out n2 hm2 low fwd).mono ?_
            rintro e w6 ⟨mv2, rfl, hmo, hB6⟩
            have HRs6 : Hid (NRow w6 tv1 (modelL D low fwd n1 P) ∧ NRow w6 tv2 ((modelL D low fwd n2 P).filter fun m => !jn D fwd n1 m) ∧ NRow w6 tv3 (modelL D low fwd n2 P) ∧ NRow w6 mv1 (modelL D low fwd n1 P) ∧ NRow w6 mv2 (modelL D low fwd n2 P)) := ⟨HRs5.out.1.later hB6, HRs5.out.2.1.later hB6, HRs5.out.2.2.1.later hB6, HRs5.out.2.2.2.later hB6, (NRow.of_owns hmo).2⟩
            have HB6 : Hid (Below w.heap.size w w6) := HB5.out.trans (hB6.mono HB5.out.size)
            have HML : Hid (∀ j, j < (modelL D low fwd n2 P).length → (modelL D low fwd n2 P).getD j 0 < P) := filter_lt fun m hm => by simpa using hm
            have hL2 : (modelL D low fwd n2 P).length ≤ 65536 := by have := modelL_len (D := D) (P := P) low fwd n2; omega
            have hL1 : (modelL D low fwd n1 P).length ≤ 65536 := by have := modelL_len (D := D) (P := P) low fwd n1; omega
            rw [← HKk.out]
            clear hmo hB6 HRs5 HB5 HN5 HKk
            generalize modelL D low fwd n2 P = L2 at HRs6 HML hL2
            generalize modelL D low fwd n1 P = L1 at HRs6 hL1
            obtain ⟨a0, c0, rfl, _⟩ := HRs6.out.1
            obtain ⟨a3, c3, rfl, _⟩ := HRs6.out.2.2.1
            obtain ⟨a1, c1, rfl, _⟩ := HRs6.out.2.2.2.1
            obtain ⟨a2, c2, rfl, hrow⟩ := HRs6.out.2.2.2.2
            have HRow := (show Hid _ from hrow)
            clear hrow
            obtain ⟨i0, hi, hz0, hz1, hz2⟩ := info_parts info3
            go_wp2_with fail
            go_loopw [29, 31, 152] (fun v29 _ v152 wz => ∃ (k l : Nat), k ≤ L2.length ∧ l ≤ k ∧ v152 = .int .i64 k ∧ Hid (((L2.take k).filter fun m => !jn D fwd n1 m).length = l) ∧ Hid (wz.ownsRow w6.heap.size 3 1 v29 l (ints ((L2.take k).filter fun m => !jn D fwd n1 m))) ∧ Hid (Below w6.heap.size w6 wz)) (fun _ _ v152 _ => L2.length - (intOf v152).toNat)
            case atStart => exact ⟨0, 0, by omega, by omega, rfl, by show _ = _; simp, (show World.ownsRow _ _ _ _ _ _ _ from World.ownsRow_nil _ _ _ _), Below.refl _ _⟩
            case round =>
              obtain ⟨k, l, hk, hl, rfl, HL9, HW9, HB9⟩ := hrel
              by_cases hlt : k < L2.length
              · obtain ⟨g, hg, hcell⟩ : ∃ g, a2 = some ⟨g, 0, none⟩ ∧ wr.cell? ⟨g, k, none⟩ = some (.int .i64 ((L2.getD k 0 : Nat) : Int)) := by
                  rcases HRow.out with h0 | ⟨g, h1, h2⟩
                  · omega
                  · exact ⟨g, h1, cell_later HB9.out (h2 k hlt)⟩
                subst hg
                have hmP := HML.out k hlt
                have HFS : Hid ((L2.take (k + 1)).filter (fun m => !jn D fwd n1 m) = (L2.take k).filter (fun m => !jn D fwd n1 m) ++ if (!jn D fwd n1 (L2.getD k 0)) = true then [L2.getD k 0] else []) := filter_take_succ (fun m => !jn D fwd n1 m) hlt
                generalize L2.getD k 0 = x at hcell hmP HFS
                have HNr := (show Hid _ from HN.out.later (HB6.out.trans (HB9.out.mono HB6.out.size)))
                have hbnd : w6.heap.size ≤ wr.heap.size := HB9.out.size
                go_wp2_with fail
                refine (joined26 HNr.out HI.out n1 x hm1 hmP fwd).mono ?_
                rintro e w7 ⟨rfl, hw7⟩
                subst w7
                clear HNr
                cases hj : jn D fwd n1 x with
                | true =>
                  have HS : Hid ((L2.take (k + 1)).filter (fun m => !jn D fwd n1 m) = (L2.take k).filter (fun m => !jn D fwd n1 m)) := by show _ = _; rw [HFS.out, hj]; simp
                  clear hj HFS
                  go_wp2_with fail
                  go_roundw
                  case rel => exact ⟨k + 1, l, by omega, by omega, by go_num, by show _ = _; rw [HS.out]; exact HL9.out, by show World.ownsRow _ _ _ _ _ _ _; rw [HS.out]; exact HW9.out, HB9.out⟩
                  case measure => simp [intOf]; omega
                | false =>
                  have HS : Hid ((L2.take (k + 1)).filter (fun m => !jn D fwd n1 m) = (L2.take k).filter (fun m => !jn D fwd n1 m) ++ [x]) := by show _ = _; rw [HFS.out, hj]; simp
                  clear hj HFS
                  go_wp2_with (at_builtin; refine wpList_append_own _ rfl _ _ 22 rfl w6.heap.size 3 i0 (.int .i64 0) 1 8 Try.underlying22 hi hz0 hz1 hz2 rfl (by decide) _ l _ rfl (HW9.out.alloc _) ⟨wr.heap.size, 0, none⟩ 1 1 [.int .i64 (x : Int)] rfl rfl (cell_one_new _ _ _) (fun u hu => by simp at hu; subst hu; rfl) (by unfold maxLen; omega) (by omega) (by simp; omega) ?_)
                  intro v29' w7 hown hgrow hnil
                  have HW1 : Hid (w7.ownsRow w6.heap.size 3 1 v29' (l + 1) (ints ((L2.take (k + 1)).filter fun m => !jn D fwd n1 m))) := by show World.ownsRow _ _ _ _ _ _ _; rw [HS.out, ← ints_snoc]; exact hown
                  have HB1 : Hid (Below w6.heap.size w6 w7) := (HB9.out.alloc hbnd _).grown hgrow (by simp; omega) (fun g hg => (HW9.out.lt g hg).1)
                  clear hown hgrow hnil
                  go_wp2_with fail
                  go_roundw
                  case rel => exact ⟨k + 1, l + 1, by omega, by omega, by go_num, by show _ = _; rw [HS.out, List.length_append, HL9.out]; rfl, HW1.out, HB1.out⟩
                  case measure => simp [intOf]; omega
              · obtain rfl : k = L2.length := by omega
                have HW10 : Hid (NRow wr u29 (L2.filter fun m => !jn D fwd n1 m)) := by have h := (NRow.of_owns HW9.out).2; rw [List.take_length] at h; exact h
                have HR10 : Hid (NRow wr (.slice a0 L1.length c0) L1 ∧ NRow wr tv2 (L2.filter fun m => !jn D fwd n1 m) ∧ NRow wr (.slice a3 L2.length c3) L2 ∧ NRow wr (.slice a1 L1.length c1) L1 ∧ NRow wr (.slice a2 L2.length c2) L2) := ⟨HRs6.out.1.later HB9.out, HRs6.out.2.1.later HB9.out, HRs6.out.2.2.1.later HB9.out, HRs6.out.2.2.2.1.later HB9.out, HRs6.out.2.2.2.2.later HB9.out⟩
                have hLf : (L2.filter fun m => !jn D fwd n1 m).length ≤ 65536 := by have := List.length_filter_le (fun m => !jn D fwd n1 m) L2; omega
                have HB10 : Hid (Below w.heap.size w wr) := HB6.out.trans (HB9.out.mono HB6.out.size)
                clear HW9 HL9 HB9 HRs6 HRow
                generalize (L2.filter fun m => !jn D fwd n1 m) = L3 at HW10 HR10 hLf
                generalize wr = w7 at HW10 HR10 HB10 ⊢
                obtain ⟨a4, c4, hu4, _⟩ := HW10.out
                subst hu4
                obtain ⟨a5, c5, rfl, _⟩ := HR10.out.2.1
                go_wp2_with fail
                refine (same23 L1 (by omega) HR10.out.1 HR10.out.2.2.2.1).mono ?_
                rintro e w8 ⟨rfl, q8, hw8⟩
                have hb8 : Below w7.heap.size w7 w8 := by rw [hw8]; exact below_drewN (Below.refl _ _) q8
                have HR11 : Hid (NRow w8 (.slice a5 L3.length c5) L3 ∧ NRow w8 (.slice a4 L3.length c4) L3 ∧ NRow w8 (.slice a3 L2.length c3) L2 ∧ NRow w8 (.slice a2 L2.length c2) L2) := ⟨HR10.out.2.1.later hb8, HW10.out.later hb8, HR10.out.2.2.1.later hb8, HR10.out.2.2.2.2.later hb8⟩
                have HB11 : Hid (Below w.heap.size w w8) := HB10.out.trans (hb8.mono HB10.out.size)
                clear hw8 hb8 HR10 HW10 HB10
                go_wp2_with fail
                refine (same23 L3 (by omega) HR11.out.1 HR11.out.2.1).mono ?_
                rintro e w9 ⟨rfl, q9, hw9⟩
                have hb9 : Below w8.heap.size w8 w9 := by rw [hw9]; exact below_drewN (Below.refl _ _) q9
                have HR12 : Hid (NRow w9 (.slice a3 L2.length c3) L2 ∧ NRow w9 (.slice a2 L2.length c2) L2) := ⟨HR11.out.2.2.1.later hb9, HR11.out.2.2.2.later hb9⟩
                have HB12 : Hid (Below w.heap.size w w9) := HB11.out.trans (hb9.mono HB11.out.size)
                clear hw9 hb9 HR11 HB11
                go_wp2_with fail
                refine (same23 L2 (by omega) HR12.out.1 HR12.out.2).mono ?_
                rintro e w10 ⟨rfl, q10, hw10⟩
                have HF : Hid (Law w (.returned (.bool true)) w10) := ⟨rfl, by rw [hw10]; exact below_drewN HB12.out q10⟩
                clear hw10
                go_wp2_with fail
                go_ret
                exact HF.out

end Go.Proofs.Qxb6612538a
