import Derived.Test.Qxb6612538aHubU
namespace Go.Proofs.Qxb6612538a
open Go.ChangeShapes Go.WideShapes Go.ChangeAt Go.RowKit

theorem TgIn.of {w wT : World} {N : Nat} {T : Nat → List Nat} (h : Tgs w wT N N T) : TgIn wT w.heap.size N T := fun i hi => by
  obtain ⟨v, h1, a, c, h2, h3⟩ := h.rows i hi
  refine ⟨v, h1, a, c, h2, ?_⟩
  rcases h3 with h3 | ⟨g, _, h4, h5⟩
  · exact .inl h3
  · exact .inr ⟨g, h4, h5⟩

theorem CsrRows.later {w w' : World} {N hub : Nat} {T : Nat → List Nat} {A S Q : Nat} {sv : Value} (h : CsrRows w N hub T A S Q sv) (hb : Below w.heap.size w w') : CsrRows w' N hub T A S Q sv := by
  refine ⟨h.start.later hb, h.pstart.later hb, ?_, ?_, h.nil⟩
  · obtain ⟨f, h1, h2⟩ := h.pred
    exact ⟨f, h1.later hb, h2⟩
  · obtain ⟨base, h1⟩ := h.steps
    exact ⟨base, h1.kept (row := none) ⟨hb.os, hb.tape, hb.output, hb.size, fun k hk _ => hb.block k hk⟩ (by cases hv : sv.ownBlock <;> simp)⟩

theorem HP.start {wG wR wA : World} {D : ND} {P R Gr Ca Ke Wa : Nat} (h : Hub wR R Gr Ca Ke Wa 1 0 false (.slice none 0 0) ∧ Below wG.heap.size wG wR ∧ wG.heap.size ≤ R ∧ wG.heap.size ≤ Ca ∧ wG.heap.size ≤ Ke ∧ wG.heap.size ≤ Wa ∧ R ≠ Ca ∧ R ≠ Ke ∧ R ≠ Wa ∧ Ca ≠ Ke ∧ Ca ≠ Wa ∧ Ke ≠ Wa)
    (hac : ∀ m, m < P → wA.cell? ⟨wR.heap.size, m, none⟩ = some (.bool (D.acc m))) (hB : Below wR.heap.size wR wA) (hl : wR.heap.size < wA.heap.size) : HP wG wA D P R Gr Ca Ke Wa wR.heap.size 1 0 false (.slice none 0 0) [] := by
  obtain ⟨hu, hb, h⟩ := h
  have l1 := World.block_lt_of_cell? _ _ hu.g
  have l2 := World.block_lt_of_cell? _ _ hu.came
  have l3 := World.block_lt_of_cell? _ _ hu.kept
  have l4 := World.block_lt_of_cell? _ _ hu.wait
  simp only at l1 l2 l3 l4
  have hz := hb.size
  exact ⟨hb.trans (hB.mono hb.size), hu.same (fun k hk => hB.block k (by omega)), hac, hl, by omega, by omega, by omega, World.ownsRow_nil _ _ _ _, fun g hg => by simp [Value.ownBlock] at hg, fun j hj => by simp at hj, by simp⟩

def Law (w : World) (e : Ending) (w' : World) : Prop := e = .returned (.bool true) ∧ Below w.heap.size w w'

set_option maxRecDepth 100000 in
set_option maxHeartbeats 8000000 in
theorem law5 {w : World} {b off P cap : Nat} {D : ND} (hP : P ≤ 9223372036854775807) (h : Nodes w b off P D) (n low : Int) (fwd : Bool) :
    Calls Try.prog 5 #[.slice (some ⟨b, off, none⟩) P cap, .int .i64 n, .int .i64 low, .bool fwd] w fun e w' => Law w e w' := by
  have HN : Hid (Nodes w b off P D) := h
  have HW : Hid (Law w (.returned (.bool true)) w) := ⟨rfl, Below.refl _ _⟩
  clear h
  go_enter Try.func5, Try.ntmps5
  go_wp2_with fail
  refine (bytes12 hP HN.out n low fwd).mono ?_
  rintro e w1 ⟨⟨b1, rfl, hb1⟩, hw⟩
  subst w1
  cases b1 with
  | false =>
    clear hb1
    go_wp2_with fail
    go_ret
    exact HW.out
  | true =>
    have HLn : Hid (LenOK D P) := hb1 rfl
    have hPs0 : P ≤ 1048576 := HLn.out.1
    have HL : Hid (∀ i, i < P → (D.nx i).length ≤ 1048576) := HLn.out.2
    clear hb1 HLn hP
    go_wp2_with fail
    refine (ok13 hPs0 HL.out HN.out).mono ?_
    rintro e w1 ⟨⟨b1, rfl, hb1⟩, hw⟩
    subst w1
    cases b1 with
    | false =>
      clear hb1
      go_wp2_with fail
      go_ret
      exact HW.out
    | true =>
      have HT : Hid (tot D P ≤ 1048576) := hb1 rfl
      have hPs : P ≤ 32768 := (pre_small HT.out).2
      have HPs : Hid (P ≤ 65536) := by show _ ≤ _; omega
      have HP1 : Hid (P + 1 ≤ 131072 ∧ pre (tgt D P) (P + 1) ≤ 1048576) := by have := (pre_small HT.out).1; exact ⟨by omega, by omega⟩
      clear hb1
      by_cases hn0 : n < 0
      · go_wp2_with fail
        go_ret
        exact HW.out
      · by_cases hnP : (P : Int) ≤ n
        · go_wp2_with fail
          go_ret
          exact HW.out
        · obtain ⟨m, rfl⟩ : ∃ m : Nat, n = m := ⟨n.toNat, by omega⟩
          have hm : m < P := by omega
          clear hn0
          go_wp2_with fail
          refine (ok14 hPs0 HL.out HN.out).mono ?_
          rintro e w1 ⟨⟨b1, rfl, hb1⟩, hw⟩
          subst w1
          cases b1 with
          | false =>
            clear hb1
            go_wp2_with fail
            go_ret
            exact HW.out
          | true =>
            have HO : Hid (∀ i, i < P → NextOK P i (D.nx i)) := hb1 rfl
            have HI : Hid (∀ i, i < P → Incr (D.nx i) ∧ (D.nx i).length ≤ 1048576) := fun i hi => ⟨(HO.out i hi).sorted, HL.out i hi⟩
            clear hb1
            go_wp2_with fail
            refine (near15 HN.out m hm fwd).mono ?_
            rintro e w1 ⟨⟨b1, rfl⟩, hw⟩
            subst w1
            cases b1 with
            | false =>
              go_wp2_with fail
              go_ret
              exact HW.out
            | true =>
              go_wp2_with fail
              refine (targets17 HPs.out HL.out HO.out HN.out).mono ?_
              rintro e wT ⟨rfl, hT⟩
              have hTB := hT.below
              have HTi : Hid (TgIn wT w.heap.size (P + 1) (tgt D P)) := TgIn.of hT
              have HB1 : Hid (Below w.heap.size w wT) := hTB
              clear hT hTB
              go_wp2_with fail
              refine (csr16 (hub := P) HP1.out.1 HP1.out.2 HTi.out (tgt_lt HO.out)).mono ?_
              rintro e wC ⟨A, S, Qq, sv, rfl, hrows, hB2⟩
              obtain ⟨sb, hsv⟩ := hrows.steps
              obtain ⟨sa, sc, hsa⟩ := owns_form hsv
              subst hsa
              have HR : Hid (CsrRows wC (P + 1) P (tgt D P) A S Qq (.slice sa (pre (tgt D P) (P + 1)) sc)) := hrows
              have HB2 : Hid (Below w.heap.size w wC) := HB1.out.trans (hB2.mono HB1.out.size)
              clear hrows hB2 hsv HTi HB1
              go_wp2_with fail
              refine (graph18 _ _ _ _ _ _ _ _ _ _ _ _ P wC).mono ?_
              rintro e wG ⟨Gr, rfl, hgr, hB3, hGr⟩
              have HG : Hid (Graph wG Gr A S Qq sa sc P (pre (tgt D P) (P + 1)) (tgt D P) (frE D P) (toE D P) (lowE (edges (tgt D P) (P + 1)) P) (intoP D P)) := graph_of HO.out HT.out (HR.out.later hB3) hgr
              have HB3 : Hid (Below w.heap.size w wG) := HB2.out.trans (hB3.mono HB2.out.size)
              clear hgr hB3 hGr HB2 HR
              go_wp2_with fail
              refine (runs19 Gr wG).mono ?_
              rintro e wR ⟨R, Ca, Ke, Wa, rfl, hhub, hB4, r1, r2, r3, r4, r5, r6, r7, r8, r9, r10⟩
              have HRu : Hid (RunsPost wG Gr (.returned (.pointer (some ⟨R, 0, none⟩))) wR) := ⟨R, Ca, Ke, Wa, rfl, hhub, hB4, r1, r2, r3, r4, r5, r6, r7, r8, r9, r10⟩
              have HHu : Hid (Hub wR R Gr Ca Ke Wa 1 0 false (.slice none 0 0) ∧ Below wG.heap.size wG wR ∧ wG.heap.size ≤ R ∧ wG.heap.size ≤ Ca ∧ wG.heap.size ≤ Ke ∧ wG.heap.size ≤ Wa ∧ R ≠ Ca ∧ R ≠ Ke ∧ R ≠ Wa ∧ Ca ≠ Ke ∧ Ca ≠ Wa ∧ Ke ≠ Wa) := ⟨hhub, hB4, r1, r2, r3, r4, r5, r6, r7, r8, r9, r10⟩
              clear hhub hB4 r1 r2 r3 r4 r5 r6 r7 r8 r9 r10 HRu
              have HNR := (show Hid _ from HN.out.later (HB3.out.trans (HHu.out.2.1.mono HB3.out.size)))
              go_wp2_with fail
              refine (accepts20 HPs.out HNR.out).mono ?_
              rintro e wA ⟨rfl, hac, hB5, hAl⟩
              obtain ⟨Ac, HAc⟩ : ∃ Ac, Hid (wR.heap.size = Ac) := ⟨_, rfl⟩
              have HH0 : Hid (HP wG wA D P R Gr Ca Ke Wa Ac 1 0 false (.slice none 0 0) []) := by rw [← HAc.out]; exact HP.start HHu.out hac hB5 hAl
              rw [HAc.out]
              clear hac hB5 hAl HHu HNR HAc
              go_wp2_with fail
              refine (hubFresh (p := fun _ => False) HO.out HPs.out HG.out HH0.out (by decide) (fun _ hk => hk.elim) hm low fwd).mono ?_
              rintro e w1 ⟨tv, v', rfl, hp1, hr1, _, _⟩
              have HB6 : Hid (Below w.heap.size w w1) := HB3.out.trans (hp1.below.mono HB3.out.size)
              have HN1 := (show Hid _ from HN.out.later HB6.out)
              have HR1 : Hid (NRow w1 tv (modelL D low fwd m P)) := hr1
              obtain ⟨kk, hkk⟩ : ∃ kk : Bool, kk = modelK D low fwd P := ⟨_, rfl⟩
              have HKk : Hid (kk = modelK D low fwd P) := hkk
              rw [← hkk]
              clear hp1 hr1 hkk HH0 HG HB3
              go_wp2_with fail
              refine (model22 HPs.out HN1.out HI.out m hm low fwd).mono ?_
              rintro e w2 ⟨mv, rfl, hmo, hB7⟩
              have HR2 : Hid (NRow w2 tv (modelL D low fwd m P)) := HR1.out.later hB7
              have HR3 : Hid (NRow w2 mv (modelL D low fwd m P)) := (NRow.of_owns hmo).2
              have HB8 : Hid (Below w.heap.size w w2) := HB6.out.trans (hB7.mono HB6.out.size)
              have HLe : Hid ((modelL D low fwd m P).length ≤ 1048576) := by have := modelL_len (D := D) (P := P) low fwd m; show _ ≤ _; omega
              rw [← HKk.out]
              obtain ⟨L, HLL⟩ : ∃ L, Hid (modelL D low fwd m P = L) := ⟨_, rfl⟩
              rw [HLL.out] at HR2 HR3 HLe
              obtain ⟨a0, c0, rfl, _⟩ := HR2.out
              obtain ⟨a1, c1, rfl, _⟩ := HR3.out
              clear hmo hB7 HR1 HB6 HN1
              go_wp2_with fail
              refine (same23 L HLe.out HR2.out HR3.out).mono ?_
              rintro e w3 ⟨rfl, q, hw3⟩
              have HF : Hid (Law w (.returned (.bool true)) w3) := ⟨rfl, by rw [hw3]; exact below_drewN HB8.out q⟩
              clear hw3
              go_wp2_with fail
              go_ret
              exact HF.out

end Go.Proofs.Qxb6612538a
