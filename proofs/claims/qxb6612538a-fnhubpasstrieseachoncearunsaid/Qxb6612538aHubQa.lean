import Derived.Test.Qxb6612538aHubP
namespace Go.Proofs.Qxb6612538a
open Go.ChangeShapes Go.WideShapes Go.ChangeAt Go.RowKit

set_option maxRecDepth 100000 in
set_option maxHeartbeats 4000000 in
theorem pass_again_true {kp : Keep} {w0 w : World} {D : ND} {P R Gr Ca Ke Wa AB Ac Tk bq : Nat} {st ps pd : Nat} {sa : Option Addr} {sc M : Nat} {T : Nat → List Nat} {fr to : Nat → Nat} {p0 : Nat} {pe : List Nat}
    (hc : Cfg kp w0.heap.size R Ca Ke Wa AB Ac Tk) (hg : Graph w0 Gr st ps pd sa sc P M T fr to p0 pe) {run : Int} {kept : Bool} {v : Value} {W : List Nat}
    (hs : ST kp w0 w D P R Gr Ca Ke Wa AB Ac Tk bq run run kept v W) (n : Nat) (hn : n < P) (low : Int) :
    Calls Try.prog 29 #[.pointer (some ⟨R, 0, none⟩), .int .i64 P, .int .i64 0, .int .i64 n, .int .i64 low, .bool true, .func (.func 30) #[] #[.pointer (some ⟨AB, 0, none⟩)], .func (.func 31) #[] #[.pointer (some ⟨Tk, 0, none⟩)]] w
      fun e w' => PassPost kp w0 D P R Gr Ca Ke Wa AB Ac Tk bq run (kept || W.any D.acc) (W.filter fun m => D.acc m && jb T true n m) (W.filter fun m => D.acc m && !jb T true n m) e w' := by
  have HC : Hid (Cfg kp w0.heap.size R Ca Ke Wa AB Ac Tk) := hc
  have HG : Hid (Graph w0 Gr st ps pd sa sc P M T fr to p0 pe) := hg
  have HS0 : Hid (ST kp w0 w D P R Gr Ca Ke Wa AB Ac Tk bq run run kept v W) := hs
  have hPs := hg.small
  have cpl := (hg.later hs.ps.below).plain
  have u1 := hs.ps.hub.g
  have u2 := hs.ps.hub.states
  have u3 := hs.ps.hub.run
  have u4 := hs.ps.hub.camev
  have u5 := hs.ps.hub.came
  obtain ⟨i0, hi, hz0, hz1, hz2⟩ := info_parts info3
  have HI3 := (show Hid _ from And.intro hi (And.intro hz0 (And.intro hz1 hz2)))
  clear hc hg hs hi hz0 hz1 hz2
  have hrr : (run != run) = false := by simp
  go_enter Try.func29, Try.ntmps29
  go_wp2_with fail
  go_quiet (fail)
  have HS1 := (show Hid _ from HS0.out.drewN nq)
  generalize w.drewN nq = w1 at HS1 ⊢
  have cpl := (HG.out.later HS1.out.ps.below).plain
  have u1 := HS1.out.ps.hub.g
  have u2 := HS1.out.ps.hub.states
  have u3 := HS1.out.ps.hub.run
  have u4 := HS1.out.ps.hub.camev
  have u5 := HS1.out.ps.hub.came
  go_wp2_with fail
  go_quiet (fail)
  have HS := (show Hid _ from HS1.out.drewN nq)
  generalize w1.drewN nq = wt at HS ⊢
  clear HS0 HS1 cpl u1 u2 u3 u4 u5
  have u5 := HS.out.ps.hub.waitv
  have u6 := HS.out.ps.hub.wait
  have hWl : W.length ≤ 65536 := HS.out.small
  have hTk0 := HS.out.tk1
  have hbase : w0.heap.size ≤ wt.heap.size := HS.out.ps.below.size
  have HTS0 : Hid (TS wt Tk wt.heap.size []) := ⟨_, HS.out.tk1, HS.out.tk2, World.ownsRow_nil _ _ _ _⟩
  have hTkl : Tk < wt.heap.size := World.block_lt_of_cell? _ _ HS.out.tk1
  have HLT : Hid (∀ k, OneOf kp R Ca Ke Wa AB Ac k → k < wt.heap.size) := fun k hk => HS.out.ps.lt hk
  clear hTk0
  rcases HS.out.own.2 with ⟨hv0, hW0⟩ | ⟨Q, cap, cur, hv0, hQb, hQh, hnc, hcm, _⟩
  · -- nothing waits, and there is no row
    have hWn : W = [] := List.eq_nil_of_length_eq_zero hW0
    subst hv0 hWn
    have u7 := HS.out.ps.hub.fwait
    have u8 := HS.out.ps.hub.keptv
    have u9 := HS.out.ps.hub.kept
    have hne1 : Wa ≠ R := fun e => HC.out.rows.2.2.1 e.symm
    have hne2 : Wa ≠ Ke := fun e => HC.out.rows.2.2.2.2.2 e.symm
    have hfin : Hid (PassPost kp w0 D P R Gr Ca Ke Wa AB Ac Tk bq run (kept || ([] : List Nat).any D.acc) (([] : List Nat).filter fun m => D.acc m && jb T true n m) (([] : List Nat).filter fun m => D.acc m && !jb T true n m) (.returned (.bool kept)) (wt.setCell ⟨Wa, 0, none⟩ (.slice none 0 0))) := by
      refine ⟨by simp, wt.heap.size, ⟨_, (by have h := HS.out.ps.setWait HC.out (.slice none 0 0); simpa using h), World.ownsRow_nil _ _ _ _, fun g hg => by simp [Value.ownBlock] at hg⟩, ?_, HLT.out⟩
      exact HTS0.out.setCell (fun e => HC.out.tk.2.2.2.1 e.symm) (HLT.out Wa (by unfold OneOf; simp)) _ _
    have o1 : (wt.setCell ⟨Wa, 0, none⟩ (.slice none 0 0)).cell? ⟨R, 4, none⟩ = some (.slice (some ⟨Ke, 0, none⟩) 1 1) := by rw [World.cell?_setCell_other _ _ _ _ (by intro e; injection e; omega)]; exact u8
    have o2 : (wt.setCell ⟨Wa, 0, none⟩ (.slice none 0 0)).cell? ⟨Ke, 0, none⟩ = some (.bool kept) := by rw [World.cell?_setCell_other _ _ _ _ (by intro e; injection e; omega)]; exact u9
    go_wp2_with fail
    go_loopw [23, 25, 167] (fun v23 _ v167 wz => v23 = .slice none 0 0 ∧ v167 = .int .i64 0 ∧ wz = wt) (fun _ _ _ _ => 0)
    case atStart => exact ⟨rfl, rfl, rfl⟩
    case round =>
      obtain ⟨rfl, rfl, rfl⟩ := hrel
      go_wp2_with fail
      go_ret
      exact hfin.out
  · -- the row lies in block Q
    subst hv0
    obtain ⟨l, hl⟩ : ∃ l, l = W.length := ⟨_, rfl⟩
    have HWL : Hid (l = W.length) := hl
    have HO0 : Hid (wt.ownsRow bq 3 1 (.slice (some ⟨Q, 0, none⟩) l cap) l (ints W)) := by show World.ownsRow _ _ _ _ _ _ _; rw [hl]; exact HS.out.own
    have HP0 : Hid (PS kp w0 wt D P R Gr Ca Ke Wa AB Ac run run (kept || (W.take 0).any D.acc) (.slice (some ⟨Q, 0, none⟩) l cap)) := by show PS _ _ _ _ _ _ _ _ _ _ _ _ _ _ _ _; rw [hl]; simpa using HS.out.ps
    have HQ : Hid (¬ OneOf kp R Ca Ke Wa AB Ac Q ∧ Q ≠ Tk) := HS.out.apart Q rfl
    have hQl : Q < wt.heap.size := (HO0.out.lt Q rfl).2
    have hQ0 : w0.heap.size ≤ Q := by have := HS.out.bq; omega
    have HWP : Hid (∀ j, j < l → W.getD j 0 < P) := fun j hj => HS.out.inP j (by rw [← HWL.out]; exact hj)
    rw [← hl] at u6 hWl hnc
    clear hl HS hQh
    unfold maxLen at hcm
    go_wp2_with fail
    go_loopw [23, 25, 167] (fun v23 _ v167 wz => ∃ (k i tn : Nat) (N : List Nat), k ≤ l ∧ i ≤ k ∧ tn ≤ k ∧ v167 = .int .i64 k ∧ v23 = .slice (some ⟨Q, 0, none⟩) i cap ∧ Hid (Filt (fun m => D.acc m && !jb T true n m) W N i k) ∧
        Hid (PS kp w0 wz D P R Gr Ca Ke Wa AB Ac run run (kept || (W.take k).any D.acc) (.slice (some ⟨Q, 0, none⟩) l cap)) ∧ Hid (wz.ownsRow bq 3 1 (.slice (some ⟨Q, 0, none⟩) l cap) l (ints N)) ∧
        Hid (((W.take k).filter fun m => D.acc m && jb T true n m).length = tn) ∧ Hid (TS wz Tk wt.heap.size ((W.take k).filter fun m => D.acc m && jb T true n m)) ∧ wt.heap.size ≤ wz.heap.size) (fun _ _ v167 _ => l - (intOf v167).toNat)
    case atStart => exact ⟨0, 0, 0, W, by omega, by omega, by omega, rfl, rfl, Filt.start _ _, HP0, HO0, by show _ = _; simp, by simpa using HTS0, Nat.le_refl _⟩
    case round =>
      obtain ⟨k, i, tn, N, hk, hi, htn, rfl, rfl, HFi, HPk, HOk, HTn, HTS, hzz⟩ := hrel
      clear HP0 HO0 HTS0
      by_cases hlt : k < l
      · have hkW : k < W.length := by rw [← HWL.out]; exact hlt
        have cm : wr.cell? ⟨Q, k, none⟩ = some (.int .i64 ((W.getD k 0 : Nat) : Int)) := by
          rw [HOk.out.cellAt k (by omega), ints_get N k (by have := HFi.out.len; omega), HFi.out.get]
        have hmP := HWP.out k hlt
        have HFS : Hid (∀ p : Nat → Bool, (W.take (k + 1)).filter p = (W.take k).filter p ++ if p (W.getD k 0) = true then [W.getD k 0] else []) := fun p => filter_take_succ p hkW
        have HAS : Hid ((W.take (k + 1)).any D.acc = ((W.take k).any D.acc || D.acc (W.getD k 0))) := any_take_succ _ hkW
        obtain ⟨m, HMe⟩ : ∃ m, Hid (W.getD k 0 = m) := ⟨_, rfl⟩
        rw [HMe.out] at cm hmP HFS HAS
        have ca := HPk.out.ac m hmP
        have cab := HPk.out.ab
        have HCA := (show Hid _ from ca)
        have HCB := (show Hid _ from cab)
        cases hacc : D.acc m with
        | false =>
          rw [hacc] at HCA HAS
          have HF1 : Hid (Filt (fun m => D.acc m && !jb T true n m) W N i (k + 1)) := HFi.out.drop hkW (by rw [HMe.out]; simp [hacc])
          have HP1 : Hid (PS kp w0 wr D P R Gr Ca Ke Wa AB Ac run run (kept || (W.take (k + 1)).any D.acc) (.slice (some ⟨Q, 0, none⟩) l cap)) := by rw [HAS.out]; simpa using HPk
          have HL1 : Hid (((W.take (k + 1)).filter fun m => D.acc m && jb T true n m) = ((W.take k).filter fun m => D.acc m && jb T true n m)) := by show _ = _; rw [HFS.out]; simp [hacc]
          clear ca cab hacc
          go_wp2_with fail
          refine (keep30 hmP HCB.out HCA.out).mono ?_
          rintro e w1 ⟨rfl, hw1⟩
          subst w1
          go_wp2_with fail
          go_roundw
          case rel => exact ⟨k + 1, i, tn, N, by omega, by omega, by omega, by go_num, rfl, HF1, HP1, HOk, by rw [HL1.out]; exact HTn, by rw [HL1.out]; exact HTS, hzz⟩
          case measure => simp [intOf]; omega
        | true =>
          rw [hacc] at HCA HAS
          have ck1 := HPk.out.hub.keptv
          have ck2 := HPk.out.hub.kept
          have fk2 := HPk.out.hub.fkept
          have HP1 : Hid (PS kp w0 (wr.setCell ⟨Ke, 0, none⟩ (.bool true)) D P R Gr Ca Ke Wa AB Ac run run (kept || (W.take (k + 1)).any D.acc) (.slice (some ⟨Q, 0, none⟩) l cap)) := by
            have h := HPk.out.setKept HC.out true
            rw [HAS.out]
            show PS _ _ _ _ _ _ _ _ _ _ _ _ _ _ _ _
            simpa using h
          have hQKe : Q ≠ Ke := fun e => HQ.out.1 (by unfold OneOf; simp [e])
          have HO1 : Hid ((wr.setCell ⟨Ke, 0, none⟩ (.bool true)).ownsRow bq 3 1 (.slice (some ⟨Q, 0, none⟩) l cap) l (ints N)) := HOk.out.kept (grown_setCell wr Ke 0 (.bool true)) (.inr (by simp [Value.ownBlock]; exact hQKe))
          have HT1 : Hid (TS (wr.setCell ⟨Ke, 0, none⟩ (.bool true)) Tk wt.heap.size ((W.take k).filter fun m => D.acc m && jb T true n m)) := HTS.out.setCell (fun e => HC.out.tk.2.2.1 e.symm) (HLT.out Ke (by unfold OneOf; simp)) _ _
          clear ca cab HPk HOk HTS
          obtain ⟨kz, hkz⟩ : ∃ kz : Bool, kz = (kept || (W.take k).any D.acc) := ⟨_, rfl⟩
          rw [← hkz] at ck2
          clear hkz
          go_wp2_with fail
          refine (keep30 hmP HCB.out HCA.out).mono ?_
          rintro e w1 ⟨rfl, hw1⟩
          subst w1
          clear HCA HCB
          go_wp2_with fail
          have hsz1 : (wr.setCell ⟨Ke, 0, none⟩ (.bool true)).heap.size = wr.heap.size := by simp
          generalize wr.setCell ⟨Ke, 0, none⟩ (.bool true) = w2 at HP1 HO1 HT1 hsz1 ⊢
          have HZ2 : Hid (wt.heap.size ≤ w2.heap.size) := by show _ ≤ _; omega
          clear hsz1 cm ck1 ck2 fk2
          have HGr := (show Hid _ from HG.out.later HP1.out.below)
          refine (joins35 HGr.out n m hn).mono ?_
          rintro e w3 ⟨rfl, hB3⟩
          have HP3 := (show Hid _ from HP1.out.later hB3)
          have HO3 : Hid (w3.ownsRow bq 3 1 (.slice (some ⟨Q, 0, none⟩) l cap) l (ints N)) := HO1.out.kept (row := none) ⟨hB3.os, hB3.tape, hB3.output, hB3.size, fun k hk _ => hB3.block k hk⟩ (.inr (by simp [Value.ownBlock]))
          have HT3 := (show Hid _ from HT1.out.later hB3)
          have hz3 : wt.heap.size ≤ w3.heap.size := by have := hB3.size; have := HZ2.out; omega
          clear HP1 HO1 HT1 hB3 HGr HZ2
          have HJ : Hid (jb T true n m = joinB T n m) := rfl
          cases hjb : joinB T n m with
          | true =>
            have HF1 : Hid (Filt (fun m => D.acc m && !jb T true n m) W N i (k + 1)) := HFi.out.drop hkW (by rw [HMe.out]; simp [HJ.out, hjb])
            have HL1 : Hid (((W.take (k + 1)).filter fun m => D.acc m && jb T true n m) = ((W.take k).filter fun m => D.acc m && jb T true n m) ++ [m]) := by show _ = _; rw [HFS.out]; simp [hacc, HJ.out, hjb]
            clear hacc hjb
            obtain ⟨tv, t1, t2, t3⟩ := HT3.out
            go_wp2_with fail
            refine (take31 m (by rw [HTn.out]; omega) hTkl hz3 t1 t2 t3).mono ?_
            rintro e w4 ⟨rfl, ⟨tv', s1, s2⟩, s3, hbut⟩
            have HP4 := (show Hid _ from HP3.out.but hbut hbase HC.out.ge.2.2.2.2.2.2 HC.out.tkOut HLT.out)
            have HO4 : Hid (w4.ownsRow bq 3 1 (.slice (some ⟨Q, 0, none⟩) l cap) l (ints N)) := by
              refine ⟨HO3.out.1, ?_⟩
              rcases HO3.out.2 with h | ⟨g', cap', cur', a1, a2, a3, a4⟩
              · exact .inl h
              · simp only [Value.slice.injEq, Option.some.injEq, Addr.mk.injEq, and_true, true_and] at a1
                obtain ⟨rfl, rfl⟩ := a1
                exact .inr ⟨Q, cap, cur', rfl, a2, by rw [hbut.block Q hQl HQ.out.2]; exact a3, a4⟩
            have HT4 : Hid (TS w4 Tk wt.heap.size ((W.take (k + 1)).filter fun m => D.acc m && jb T true n m)) := by
              rw [HL1.out]
              exact ⟨tv', s1, s3, by rw [List.length_append]; exact s2⟩
            have hz4 : wt.heap.size ≤ w4.heap.size := by have := hbut.size; omega
            clear t1 t2 t3 s1 s2 s3 hbut HP3 HO3 HT3
            go_wp2_with fail
            go_roundw
            case rel => exact ⟨k + 1, i, tn + 1, N, by omega, by omega, by omega, by go_num, rfl, HF1, HP4, HO4, by show _ = _; rw [HL1.out, List.length_append, HTn.out]; rfl, HT4, hz4⟩
            case measure => simp [intOf]; omega
          | false =>
            have HF1 : Hid (Filt (fun m => D.acc m && !jb T true n m) W (N.set i m) (i + 1) (k + 1)) := by have := HFi.out.keep hkW (by rw [HMe.out]; simp [hacc, HJ.out, hjb]); rw [HMe.out] at this; exact this
            have HL1 : Hid (((W.take (k + 1)).filter fun m => D.acc m && jb T true n m) = ((W.take k).filter fun m => D.acc m && jb T true n m)) := by show _ = _; rw [HFS.out]; simp [HJ.out, hjb]
            clear hacc hjb
            go_wp2_with (at_builtin; refine wpList_append_set _ rfl _ _ 22 rfl bq 3 i0 Try.underlying22 HI3.out.1 HI3.out.2.2.1 Q l i cap _ rfl (HO3.out.alloc _) (by omega) ⟨w3.heap.size, 0, none⟩ 1 (.int .i64 (m : Int)) rfl (by rw [World.cell?_alloc_at _ _ _ _ rfl]; rfl) rfl ?_)
            intro w4 hown hgrow
            have hga := World.grownBy_alloc w3 (.cells #[.int .i64 (m : Int)] 3) none
            have HP4 := (show Hid _ from (HP3.out.grown hga (fun g hg => by cases hg)).grown hgrow (fun g hg => by simp at hg; subst hg; exact ⟨hQ0, HQ.out.1⟩))
            have HO4 : Hid (w4.ownsRow bq 3 1 (.slice (some ⟨Q, 0, none⟩) l cap) l (ints (N.set i m))) := by show World.ownsRow _ _ _ _ _ _ _; rw [← ints_set]; exact hown
            have HT4 : Hid (TS w4 Tk wt.heap.size ((W.take (k + 1)).filter fun m => D.acc m && jb T true n m)) := by
              rw [HL1.out]
              exact TS.same (TS.same HT3.out hga (fun g hg => by cases hg)) hgrow (fun g hg => by simp at hg; subst hg; exact ⟨HQ.out.2, hQl⟩)
            have hz4 : wt.heap.size ≤ w4.heap.size := by have := hgrow.size; simp at this; omega
            clear hown hgrow hga HP3 HO3 HT3
            go_wp2_with fail
            go_roundw
            case rel => exact ⟨k + 1, i + 1, tn, N.set i m, by omega, by omega, by omega, by go_num, rfl, HF1, HP4, HO4, by rw [HL1.out]; exact HTn, HT4, hz4⟩
            case measure => simp [intOf]; omega
      · obtain rfl : k = l := by omega
        have x5 := HPk.out.hub.waitv
        have x6 := HPk.out.hub.wait
        have x7 := HPk.out.hub.fwait
        have x8 := HPk.out.hub.keptv
        have x9 := HPk.out.hub.kept
        have hne1 : Wa ≠ R := fun e => HC.out.rows.2.2.1 e.symm
        have hne2 : Wa ≠ Ke := fun e => HC.out.rows.2.2.2.2.2 e.symm
        have hQWa : Q ≠ Wa := fun e => HQ.out.1 (by unfold OneOf; simp [e])
        have HKe : Hid ((kept || (W.take k).any D.acc) = (kept || W.any D.acc)) := by show _ = _; rw [HWL.out, List.take_length]
        rw [HKe.out] at x9
        have hfin : Hid (PassPost kp w0 D P R Gr Ca Ke Wa AB Ac Tk bq run (kept || W.any D.acc) (W.filter fun m => D.acc m && jb T true n m) (W.filter fun m => D.acc m && !jb T true n m) (.returned (.bool (kept || W.any D.acc))) (wr.setCell ⟨Wa, 0, none⟩ (.slice (some ⟨Q, 0, none⟩) i cap))) := by
          have hF := HFi.out
          rw [HWL.out] at hF
          have hd := hF.done
          have hNl : N.length = k := by rw [hF.len, ← HWL.out]
          have hil : (W.filter fun m => D.acc m && !jb T true n m).length = i := by rw [← hd, List.length_take, hNl]; omega
          have hp := HPk.out.setWait HC.out (.slice (some ⟨Q, 0, none⟩) i cap)
          rw [HKe.out] at hp
          refine ⟨rfl, wt.heap.size, ⟨_, hp, ?_, fun g hg => ?_⟩, ?_, HLT.out⟩
          · have h1 := HOk.out.kept (grown_setCell wr Wa 0 (.slice (some ⟨Q, 0, none⟩) i cap)) (.inr (by simp [Value.ownBlock]; exact hQWa))
            rw [hil, ← hd]
            have h2 := owns_shrink h1 (show i ≤ k by omega)
            unfold ints at h2 ⊢
            rw [List.map_take]
            exact h2
          · simp [Value.ownBlock] at hg
            subst hg
            exact ⟨HQ.out, hQl⟩
          · have h1 := HTS.out
            rw [HWL.out, List.take_length] at h1
            exact h1.setCell (fun e => HC.out.tk.2.2.2.1 e.symm) (HLT.out Wa (by unfold OneOf; simp)) _ _
        have o1 : (wr.setCell ⟨Wa, 0, none⟩ (.slice (some ⟨Q, 0, none⟩) i cap)).cell? ⟨R, 4, none⟩ = some (.slice (some ⟨Ke, 0, none⟩) 1 1) := by rw [World.cell?_setCell_other _ _ _ _ (by intro e; injection e; omega)]; exact x8
        have o2 : (wr.setCell ⟨Wa, 0, none⟩ (.slice (some ⟨Q, 0, none⟩) i cap)).cell? ⟨Ke, 0, none⟩ = some (.bool (kept || W.any D.acc)) := by rw [World.cell?_setCell_other _ _ _ _ (by intro e; injection e; omega)]; exact x9
        obtain ⟨kk, hkk⟩ : ∃ kk : Bool, kk = (kept || W.any D.acc) := ⟨_, rfl⟩
        have hfin2 : Hid (PassPost kp w0 D P R Gr Ca Ke Wa AB Ac Tk bq run (kept || W.any D.acc) (W.filter fun m => D.acc m && jb T true n m) (W.filter fun m => D.acc m && !jb T true n m) (.returned (.bool kk)) (wr.setCell ⟨Wa, 0, none⟩ (.slice (some ⟨Q, 0, none⟩) i cap))) := by rw [hkk]; exact hfin
        rw [← hkk] at o2 x9
        clear hkk hfin
        clear HPk HOk HTS HFi
        go_wp2_with fail
        go_ret
        exact hfin2.out

end Go.Proofs.Qxb6612538a
