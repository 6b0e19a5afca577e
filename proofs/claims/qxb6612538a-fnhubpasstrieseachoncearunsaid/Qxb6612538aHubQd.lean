import Derived.Test.Qxb6612538aHubR
import Derived.Test.Qxb6612538aHubD
import Derived.Deep.RegionLaw
import Derived.Deep.AppendLies
namespace Go.Proofs.Qxb6612538a
open Go.ChangeShapes Go.WideShapes Go.ChangeAt Go.RowKit

attribute [local go_sem ↓ high] builtin_app

set_option maxRecDepth 100000 in
set_option maxHeartbeats 8000000 in
theorem pass_fresh_false {kp : Keep} {w0 w : World} {D : ND} {P R Gr Ca Ke Wa AB Ac Tk bq : Nat} {st ps pd : Nat} {sa : Option Addr} {sc M : Nat} {T : Nat → List Nat} {fr to : Nat → Nat} {p0 : Nat} {pe : List Nat}
    (hc : Cfg kp w0.heap.size R Ca Ke Wa AB Ac Tk) (hg : Graph w0 Gr st ps pd sa sc P M T fr to p0 pe) {run came : Int} {kz0 : Bool} {v0 : Value} {W0 : List Nat} (hrun : (came != run) = true)
    (hs : ST kp w0 w D P R Gr Ca Ke Wa AB Ac Tk bq run came kz0 v0 W0) (hbq : bq ≤ w.heap.size) (hcand : ∀ j, j < pe.length → fr (pe.getD j 0) < P) (hclen : pe.length ≤ 65536) (n : Nat) (_hn : n < P) (low : Int) :
    Calls Try.prog 29 #[.pointer (some ⟨R, 0, none⟩), .int .i64 P, .int .i64 0, .int .i64 n, .int .i64 low, .bool false, .func (.func 30) #[] #[.pointer (some ⟨AB, 0, none⟩)], .func (.func 31) #[] #[.pointer (some ⟨Tk, 0, none⟩)]] w
      fun e w' => FreshPost kp w0 D P R Gr Ca Ke Wa AB Ac Tk bq run T fr pe false n low e w' := by
  have HC : Hid (Cfg kp w0.heap.size R Ca Ke Wa AB Ac Tk) := hc
  have HG : Hid (Graph w0 Gr st ps pd sa sc P M T fr to p0 pe) := hg
  have HS0 : Hid (ST kp w0 w D P R Gr Ca Ke Wa AB Ac Tk bq run came kz0 v0 W0) := hs
  have HCa := (show Hid _ from hcand)
  have hPs := hg.small
  have cpl := (hg.later hs.ps.below).plain
  have u1 := hs.ps.hub.g
  have u2 := hs.ps.hub.states
  have u3 := hs.ps.hub.run
  have u4 := hs.ps.hub.camev
  have u5 := hs.ps.hub.came
  obtain ⟨i0, hi, hz0, hz1, hz2⟩ := info_parts info3
  have HI3 := (show Hid _ from And.intro hi (And.intro hz0 (And.intro hz1 hz2)))
  clear hc hg hs hi hz0 hz1 hz2 hcand
  go_enter Try.func29, Try.ntmps29
  go_wp2_with fail
  go_quiet (fail)
  have HS1 := (show Hid _ from HS0.out.drewN nq)
  have hb1 : bq ≤ (w.drewN nq).heap.size := hbq
  generalize w.drewN nq = w1 at HS1 hb1 ⊢
  have cpl := (HG.out.later HS1.out.ps.below).plain
  have u1 := HS1.out.ps.hub.g
  have u2 := HS1.out.ps.hub.states
  have u3 := HS1.out.ps.hub.run
  have u4 := HS1.out.ps.hub.camev
  have u5 := HS1.out.ps.hub.came
  go_wp2_with fail
  go_quiet (fail)
  have HS2 := (show Hid _ from HS1.out.drewN nq)
  have hb2 : bq ≤ (w1.drewN nq).heap.size := hb1
  generalize w1.drewN nq = w2 at HS2 hb2 ⊢
  clear HS0 HS1 cpl u1 u2 u3 u4 u5 hb1 hbq
  have y1 := HS2.out.ps.hub.run
  have y2 := HS2.out.ps.hub.camev
  have y3 := HS2.out.ps.hub.keptv
  have y4 := HS2.out.ps.hub.came
  have y5 := HS2.out.ps.hub.fcame
  have y6 := HS2.out.ps.hub.kept
  have y7 := HS2.out.ps.hub.fkept
  have hRC : R ≠ Ca := HC.out.rows.1
  have hRK : R ≠ Ke := HC.out.rows.2.1
  have hCK : Ca ≠ Ke := HC.out.rows.2.2.2.1
  have hRW : R ≠ Wa := HC.out.rows.2.2.1
  go_wp2_with fail
  go_region
  have HS3' := (HS2.out.setCK HC.out).drewN 1
  obtain ⟨kept, hk0⟩ : ∃ k0 : Bool, k0 = false := ⟨_, rfl⟩
  have HK0 : Hid (kept = false) := hk0
  rw [← hk0] at HS3'
  clear hk0
  have HS3 : Hid (ST kp w0 (((w2.setCell ⟨Ca, 0, none⟩ (.int .i64 run)).setCell ⟨Ke, 0, none⟩ (.bool false)).drew) D P R Gr Ca Ke Wa AB Ac Tk bq run run kept v0 W0) := by rw [HK0.out] at HS3' ⊢; exact HS3'
  have hb3 : bq ≤ (((w2.setCell ⟨Ca, 0, none⟩ (.int .i64 run)).setCell ⟨Ke, 0, none⟩ (.bool false)).drew).heap.size := by simpa using hb2
  clear HS3' HS2 hb2 y1 y2 y3 y4 y5 y6 y7
  generalize (((w2.setCell ⟨Ca, 0, none⟩ (.int .i64 run)).setCell ⟨Ke, 0, none⟩ (.bool false)).drew) = w3 at HS3 hb3 ⊢
  have y1 := HS3.out.ps.hub.waitv
  have y2 := HS3.out.ps.hub.wait
  have y3 := HS3.out.ps.hub.fwait
  obtain ⟨a1, c1, hsl, hv1⟩ : ∃ a1 c1, (∀ w : World, (Instr.slice 22 v0 none (some (.int .i64 0)) none).run Try.prog w = .ok (.slice a1 0 c1) w) ∧ Hid ((Value.slice a1 0 c1 = .slice none 0 0) ∨ ∃ Q m cap, v0 = .slice (some ⟨Q, 0, none⟩) m cap ∧ Value.slice a1 0 c1 = .slice (some ⟨Q, 0, none⟩) 0 cap) := by
    rcases HS3.out.own.2 with ⟨h, _⟩ | ⟨Q, cap, cur, h, _⟩
    · exact ⟨none, 0, fun w => by subst h; go_simp, .inl rfl⟩
    · exact ⟨some ⟨Q, 0, none⟩, cap, fun w => by subst h; go_simp, .inr ⟨Q, _, cap, h, rfl⟩⟩
  go_wp2_with fail
  go_region
  have HS4 : Hid (ST kp w0 ((w3.setCell ⟨Wa, 0, none⟩ (.slice a1 0 c1)).drew) D P R Gr Ca Ke Wa AB Ac Tk bq run run kept (.slice a1 0 c1) []) := (HS3.out.reset HC.out hv1.out).drewN 1
  have hb4 : bq ≤ ((w3.setCell ⟨Wa, 0, none⟩ (.slice a1 0 c1)).drew).heap.size := by simpa using hb3
  clear HS3 hb3 y1 y2 y3 hsl hv1
  generalize (w3.setCell ⟨Wa, 0, none⟩ (.slice a1 0 c1)).drew = w4 at HS4 hb4 ⊢
  have HGr := (show Hid _ from HG.out.later HS4.out.ps.below)
  go_wp2_with fail
  refine (pred34 HGr.out low).mono ?_
  rintro e w5 ⟨sa1, sc1, ii, found, rfl, hpl, haddr, hB5⟩
  have HWc : Hid ((pe.drop ii).map fr = candL T fr pe P false low) := candL_bwd hpl
  have HCl : Hid (((pe.drop ii).map fr).length = pe.length - ii) := by show _ = _; simp
  have hCN : ((pe.drop ii).map fr).length ≤ 65536 := by rw [HCl.out]; omega
  have HCd : Hid (∀ j, j < ((pe.drop ii).map fr).length → ((pe.drop ii).map fr).getD j 0 < P ∧ ii + j < pe.length ∧ ((pe.drop ii).map fr).getD j 0 = fr (pe.getD (ii + j) 0)) := fun j hj => by
    have hj' : ii + j < pe.length := by rw [HCl.out] at hj; omega
    have e : ((pe.drop ii).map fr).getD j 0 = fr (pe.getD (ii + j) 0) := by simp [List.getD, List.getElem?_eq_getElem hj']
    exact ⟨by rw [e]; exact HCa.out _ hj', hj', e⟩
  have HAd : Hid (ii < pe.length → sa1 = some ⟨pd, p0 + ii, none⟩) := haddr
  have HS5 := (show Hid _ from HS4.out.later hB5)
  have hb5 : bq ≤ w5.heap.size := Nat.le_trans hb4 hB5.size
  rw [← HCl.out]
  clear hpl haddr hB5 HS4 HGr hb4 hclen
  generalize (pe.drop ii).map fr = W at HWc HCl hCN HCd ⊢
  obtain ⟨L, hL⟩ : ∃ L, L = W.length := ⟨_, rfl⟩
  have HLe : Hid (L = W.length) := hL
  rw [← hL] at hCN ⊢
  clear hL HCa
  go_wp2_with fail
  go_loopw [22, 122] (fun _ v122 wz => ∃ (k : Nat) (v : Value), k ≤ L ∧ v122 = .int .i64 k ∧ Hid (ST kp w0 wz D P R Gr Ca Ke Wa AB Ac Tk bq run run kept v (W.take k)) ∧ bq ≤ wz.heap.size) (fun _ v122 _ => L - (intOf v122).toNat)
  case atStart => exact ⟨0, .slice a1 0 c1, by omega, rfl, by simpa using HS5, hb5⟩
  case round =>
    obtain ⟨k, v, hk, rfl, HSk, hbk⟩ := hrel
    by_cases hlt : k < L
    · have hkC : k < W.length := by rw [← HLe.out]; exact hlt
      obtain ⟨x, HXe⟩ : ∃ x, Hid (W.getD k 0 = x) := ⟨_, rfl⟩
      have HXP : Hid (x < P) := by have := (HCd.out k hkC).1; rw [HXe.out] at this; exact this
      have hii := (HCd.out k hkC).2.1
      have hsa1 := HAd.out (by omega)
      have hGr := HG.out.later HSk.out.ps.below
      have e0 := hGr.preds (ii + k) hii
      have hz := hGr.pin (ii + k) hii
      have ecx := (HCd.out k hkC).2.2
      rw [HXe.out] at ecx
      generalize pe.getD (ii + k) 0 = z at e0 hz ecx
      rw [← Nat.add_assoc] at e0
      have c2 := hGr.steps
      obtain ⟨bs, hsa, cx⟩ : ∃ bs, sa = some ⟨bs, 0, none⟩ ∧ wr.cell? ⟨bs, z * 6, none⟩ = some (.int .i64 (x : Int)) := by
        rcases hGr.row with ⟨h0, _, _⟩ | ⟨_, bs, hsa, hst⟩
        · omega
        · obtain ⟨kk, qq, ss, pp, e0, _⟩ := hst z hz
          refine ⟨bs, hsa, ?_⟩
          rw [← ecx, Nat.zero_add] at *
          exact e0
      generalize p0 + ii = so at e0 hsa1
      rw [hsa] at c2
      subst hsa1
      have hzM := hz
      have hMs := hGr.small
      have hMc := hGr.cap
      unfold maxLen at hMc
      clear hGr hii ecx
      go_wp2_with fail
      have HSq := HSk
      have hbq' : bq ≤ wr.heap.size := hbk
      have lx := World.block_lt_of_cell? _ _ cx
      have lc2 := World.block_lt_of_cell? _ _ c2
      generalize wr = wq at cx c2 lx lc2 HSq hbq' ⊢
      clear e0
      have HTl : Hid ((W.take k).length = k) := by show _ = _; rw [List.length_take]; omega
      have z1 := HSq.out.ps.hub.waitv
      have z2 := HSq.out.ps.hub.wait
      have z3 := HSq.out.ps.hub.fwait
      have HSa : Hid (ST kp w0 ((wq.alloc (.cells #[.int .i64 (x : Int)] 3)).drew) D P R Gr Ca Ke Wa AB Ac Tk bq run run kept v (W.take k)) := (HSq.out.later ((Below.refl wq.heap.size wq).alloc (Nat.le_refl _) (.cells #[.int .i64 (x : Int)] 3))).drewN 1
      have HOa : Hid (((wq.alloc (.cells #[.int .i64 (x : Int)] 3)).drew).ownsRow bq 3 1 v k (ints (W.take k))) := by have h := HSa.out.own; rw [HTl.out] at h; exact h
      have HNe : Hid (some R ≠ v.ownBlock ∧ some Wa ≠ v.ownBlock) := ⟨fun e => (HSq.out.apart R e.symm).1 (by unfold OneOf; simp), fun e => (HSq.out.apart Wa e.symm).1 (by unfold OneOf; simp)⟩
      have HNw : Hid (∀ j u, [Value.int .i64 (x : Int)][j]? = some u → ((wq.alloc (.cells #[.int .i64 (x : Int)] 3)).drew).cell? ((⟨wq.heap.size, 0, none⟩ : Addr).add j) = some u) := World.news_of_block (cs := #[.int .i64 (x : Int)]) (t := 3) (fr := (0, 0)) (heap_alloc_new wq _)
      have HAl : Hid (∀ u ∈ [Value.int .i64 (x : Int)], u.oneCell' = true) := by show ∀ u ∈ _, _; simp [Value.oneCell']
      have Hm : Hid (k + 1 ≤ maxLen ∧ (k + 1) * 8 ≤ 140737488355328) := by show _ ∧ _; unfold maxLen; omega
      have Hbs : Hid (bq ≤ ((wq.alloc (.cells #[.int .i64 (x : Int)] 3)).drew).heap.size ∧ ((wq.alloc (.cells #[.int .i64 (x : Int)] 3)).drew).heap.size = wq.heap.size + 1) := by show _ ∧ _; simp; omega
      have HKp : Hid (∀ w1 : World, ((wq.alloc (.cells #[.int .i64 (x : Int)] 3)).drew).grownBy w1 v.ownBlock → w1.cell? ⟨R, 5, none⟩ = some (.slice (some ⟨Wa, 0, none⟩) 1 1) ∧ w1.cell? ⟨Wa, 0, none⟩ = some v ∧ w1.frozen? ⟨Wa, 0, none⟩ = false) := fun w1 hg =>
        ⟨hg.cell HSa.out.ps.hub.waitv HNe.out.1, hg.cell HSa.out.ps.hub.wait HNe.out.2, (World.frozen?_of_block (hg.block Wa (HSa.out.ps.lt (by unfold OneOf; simp)) HNe.out.2)).trans HSa.out.ps.hub.fwait⟩
      have HSb := (show Hid _ from HSq.out.later ((Below.refl wq.heap.size wq).alloc (Nat.le_refl _) (.cells #[.int .i64 (x : Int)] 3)))
      have zb1 := HSb.out.ps.hub.waitv
      have zb2 := HSb.out.ps.hub.wait
      have zb3 : (wq.alloc (.cells #[.int .i64 (x : Int)] 3)).cell? ⟨bs, z * 6, none⟩ = _ := cell_later ((Below.refl wq.heap.size wq).alloc (Nat.le_refl _) (.cells #[.int .i64 (x : Int)] 3)) cx
      have zb4 : (wq.alloc (.cells #[.int .i64 (x : Int)] 3)).cell? ⟨Gr, 2, none⟩ = _ := cell_later ((Below.refl wq.heap.size wq).alloc (Nat.le_refl _) (.cells #[.int .i64 (x : Int)] 3)) c2
      obtain ⟨gg, cap, w6, happ', hown6, hgrow6, hat6, hlt6⟩ := run_append_lies (P := Try.prog) ((wq.alloc (.cells #[.int .i64 (x : Int)] 3)).drew) 22 22 bq 3 i0 _ 1 8 Try.underlying22 HI3.out.1 HI3.out.2.1 HI3.out.2.2.1 HI3.out.2.2.2 rfl Nat.one_pos v k (ints (W.take k)) HOa.out ⟨wq.heap.size, 0, none⟩ 1 1 [.int .i64 (x : Int)] rfl HNw.out HAl.out Nat.one_pos Hm.out.1 Hm.out.2 Hbs.out.1 (wq.heap.size + 1) Hbs.out.2
      have happ : (app_ #[22, 22] 22 #[v, .slice (some ⟨wq.heap.size, 0, none⟩) 1 1]).run Try.prog ((wq.alloc (.cells #[.int .i64 (x : Int)] 3)).drew) = .ok (.slice (some ⟨gg, 0, none⟩) (k + 1) cap) w6 := by unfold app_; exact happ'
      clear happ'
      have HA6 := (show Hid _ from And.intro hown6 (And.intro hgrow6 (And.intro hat6 hlt6)))
      have z4 := (HKp.out w6 hgrow6).1
      have z5 := (HKp.out w6 hgrow6).2.1
      have z6 := (HKp.out w6 hgrow6).2.2
      clear hown6 hgrow6 hat6 hlt6
      go_region
      have HS6 : Hid (ST kp w0 (w6.setCell ⟨Wa, 0, none⟩ (.slice (some ⟨gg, 0, none⟩) (k + 1) cap)) D P R Gr Ca Ke Wa AB Ac Tk bq run run kept (.slice (some ⟨gg, 0, none⟩) (k + 1) cap) (W.take (k + 1))) := by
        have h := HSa.out.append HC.out (gg := gg) (cap := cap) (x := x) (Below.refl _ _) HA6.out.2.1 (by rw [HTl.out]; exact HA6.out.1) (by rcases HA6.out.2.2.1 with e | e; exact .inl e; exact .inr (by rw [e, Hbs.out.2]; exact Nat.le_refl _)) HXP.out (by rw [HTl.out]; omega)
        rw [HTl.out] at h
        rw [take_snoc' W k hkC, HXe.out]
        exact h
      have hb6 : bq ≤ (w6.setCell ⟨Wa, 0, none⟩ (.slice (some ⟨gg, 0, none⟩) (k + 1) cap)).heap.size := by
        have h1 := HA6.out.2.1.size
        have h2 := Hbs.out.1
        simp
        omega
      clear z1 z2 z3 z4 z5 z6 zb1 zb2 zb3 happ HA6 HSa HSb HSq HSk
      go_wp2_with fail
      go_roundw
      case rel => exact ⟨k + 1, _, by omega, by go_num, HS6, hb6⟩
      case measure => simp [intOf]; omega
    · obtain rfl : k = L := by omega
      have HS : Hid (ST kp w0 wr D P R Gr Ca Ke Wa AB Ac Tk bq run run kept v W) := by have h := HSk.out; rw [HLe.out, List.take_length] at h; exact h
      clear HSk hbk HS5 hb5 HAd HCd HCl HLe
      generalize wr = wt at HS ⊢
      have u5 := HS.out.ps.hub.waitv
      have u6 := HS.out.ps.hub.wait
      have hWl : W.length ≤ 65536 := HS.out.small
      have hTk0 := HS.out.tk1
      have hbase : w0.heap.size ≤ wt.heap.size := HS.out.ps.below.size
      have HTS0 : Hid (TS wt Tk wt.heap.size []) := ⟨_, HS.out.tk1, HS.out.tk2, World.ownsRow_nil _ _ _ _⟩
      have hTkl : Tk < wt.heap.size := World.block_lt_of_cell? _ _ HS.out.tk1
      have HLT : Hid (∀ k, OneOf kp R Ca Ke Wa AB Ac k → k < wt.heap.size) := fun k hk => HS.out.ps.lt hk
      clear hTk0
      rcases HS.out.own.2 with ⟨hv0, hW0⟩ | ⟨Q, cap, cur, hv0, hQb, hQh, hnc, hcm, _⟩
      · -- nothing waits, and there is no row
        have hWn : W = [] := List.eq_nil_of_length_eq_zero hW0
        subst hv0 hWn
        have u7 := HS.out.ps.hub.fwait
        have u8 := HS.out.ps.hub.keptv
        have u9 := HS.out.ps.hub.kept
        have hne1 : Wa ≠ R := fun e => HC.out.rows.2.2.1 e.symm
        have hne2 : Wa ≠ Ke := fun e => HC.out.rows.2.2.2.2.2 e.symm
        have hfin : Hid (PassPost kp w0 D P R Gr Ca Ke Wa AB Ac Tk bq run (kept || ([] : List Nat).any D.acc) (([] : List Nat).filter fun m => D.acc m && jb T false n m) (([] : List Nat).filter fun m => D.acc m && !jb T false n m) (.returned (.bool kept)) (wt.setCell ⟨Wa, 0, none⟩ (.slice none 0 0))) := by
          refine ⟨by simp, wt.heap.size, ⟨_, (by have h := HS.out.ps.setWait HC.out (.slice none 0 0); simpa using h), World.ownsRow_nil _ _ _ _, fun g hg => by simp [Value.ownBlock] at hg⟩, ?_, HLT.out⟩
          exact HTS0.out.setCell (fun e => HC.out.tk.2.2.2.1 e.symm) (HLT.out Wa (by unfold OneOf; simp)) _ _
        have o1 : (wt.setCell ⟨Wa, 0, none⟩ (.slice none 0 0)).cell? ⟨R, 4, none⟩ = some (.slice (some ⟨Ke, 0, none⟩) 1 1) := by rw [World.cell?_setCell_other _ _ _ _ (by intro e; injection e; omega)]; exact u8
        have o2 : (wt.setCell ⟨Wa, 0, none⟩ (.slice none 0 0)).cell? ⟨Ke, 0, none⟩ = some (.bool kept) := by rw [World.cell?_setCell_other _ _ _ _ (by intro e; injection e; omega)]; exact u9
        go_wp2_with fail
        go_loopw [23, 25, 167] (fun v23 _ v167 wz => v23 = .slice none 0 0 ∧ v167 = .int .i64 0 ∧ wz = wt) (fun _ _ _ _ => 0)
        case atStart => exact ⟨rfl, rfl, rfl⟩
        case round =>
          obtain ⟨rfl, rfl, rfl⟩ := hrel
          go_wp2_with fail
          go_ret
          exact ⟨_, kept, ⟨HK0.out, HWc.out⟩, hfin.out⟩
      · -- the row lies in block Q
        subst hv0
        obtain ⟨l, hl⟩ : ∃ l, l = W.length := ⟨_, rfl⟩
        have HWL : Hid (l = W.length) := hl
        have HO0 : Hid (wt.ownsRow bq 3 1 (.slice (some ⟨Q, 0, none⟩) l cap) l (ints W)) := by show World.ownsRow _ _ _ _ _ _ _; rw [hl]; exact HS.out.own
        have HP0 : Hid (PS kp w0 wt D P R Gr Ca Ke Wa AB Ac run run (kept || (W.take 0).any D.acc) (.slice (some ⟨Q, 0, none⟩) l cap)) := by show PS _ _ _ _ _ _ _ _ _ _ _ _ _ _ _ _; rw [hl]; simpa using HS.out.ps
        have HQ : Hid (¬ OneOf kp R Ca Ke Wa AB Ac Q ∧ Q ≠ Tk) := HS.out.apart Q rfl
        have hQl : Q < wt.heap.size := (HO0.out.lt Q rfl).2
        have hQ0 : w0.heap.size ≤ Q := by have := HS.out.bq; omega
        have HWP : Hid (∀ j, j < l → W.getD j 0 < P) := fun j hj => HS.out.inP j (by rw [← HWL.out]; exact hj)
        rw [← hl] at u6 hWl hnc
        clear hl HS hQh
        unfold maxLen at hcm
        go_wp2_with fail
        go_loopw [23, 25, 167] (fun v23 _ v167 wz => ∃ (k i tn : Nat) (N : List Nat), k ≤ l ∧ i ≤ k ∧ tn ≤ k ∧ v167 = .int .i64 k ∧ v23 = .slice (some ⟨Q, 0, none⟩) i cap ∧ Hid (Filt (fun m => D.acc m && !jb T false n m) W N i k) ∧
            Hid (PS kp w0 wz D P R Gr Ca Ke Wa AB Ac run run (kept || (W.take k).any D.acc) (.slice (some ⟨Q, 0, none⟩) l cap)) ∧ Hid (wz.ownsRow bq 3 1 (.slice (some ⟨Q, 0, none⟩) l cap) l (ints N)) ∧
            Hid (((W.take k).filter fun m => D.acc m && jb T false n m).length = tn) ∧ Hid (TS wz Tk wt.heap.size ((W.take k).filter fun m => D.acc m && jb T false n m)) ∧ wt.heap.size ≤ wz.heap.size) (fun _ _ v167 _ => l - (intOf v167).toNat)
        case atStart => exact ⟨0, 0, 0, W, by omega, by omega, by omega, rfl, rfl, Filt.start _ _, HP0, HO0, by show _ = _; simp, by simpa using HTS0, Nat.le_refl _⟩
        case round =>
          obtain ⟨k, i, tn, N, hk, hi, htn, rfl, rfl, HFi, HPk, HOk, HTn, HTS, hzz⟩ := hrel
          clear HP0 HO0 HTS0
          by_cases hlt : k < l
          · have hkW : k < W.length := by rw [← HWL.out]; exact hlt
            have cm : wr.cell? ⟨Q, k, none⟩ = some (.int .i64 ((W.getD k 0 : Nat) : Int)) := by
              rw [HOk.out.cellAt k (by omega), ints_get N k (by have := HFi.out.len; omega), HFi.out.get]
            have hmP := HWP.out k hlt
            have HFS : Hid (∀ p : Nat → Bool, (W.take (k + 1)).filter p = (W.take k).filter p ++ if p (W.getD k 0) = true then [W.getD k 0] else []) := fun p => filter_take_succ p hkW
            have HAS : Hid ((W.take (k + 1)).any D.acc = ((W.take k).any D.acc || D.acc (W.getD k 0))) := any_take_succ _ hkW
            obtain ⟨m, HMe⟩ : ∃ m, Hid (W.getD k 0 = m) := ⟨_, rfl⟩
            rw [HMe.out] at cm hmP HFS HAS
            have ca := HPk.out.ac m hmP
            have cab := HPk.out.ab
            have HCA := (show Hid _ from ca)
            have HCB := (show Hid _ from cab)
            cases hacc : D.acc m with
            | false =>
              rw [hacc] at HCA HAS
              have HF1 : Hid (Filt (fun m => D.acc m && !jb T false n m) W N i (k + 1)) := HFi.out.drop hkW (by rw [HMe.out]; simp [hacc])
              have HP1 : Hid (PS kp w0 wr D P R Gr Ca Ke Wa AB Ac run run (kept || (W.take (k + 1)).any D.acc) (.slice (some ⟨Q, 0, none⟩) l cap)) := by rw [HAS.out]; simpa using HPk
              have HL1 : Hid (((W.take (k + 1)).filter fun m => D.acc m && jb T false n m) = ((W.take k).filter fun m => D.acc m && jb T false n m)) := by show _ = _; rw [HFS.out]; simp [hacc]
              clear ca cab hacc
              go_wp2_with fail
              refine (keep30 hmP HCB.out HCA.out).mono ?_
              rintro e w1 ⟨rfl, hw1⟩
              subst w1
              go_wp2_with fail
              go_roundw
              case rel => exact ⟨k + 1, i, tn, N, by omega, by omega, by omega, by go_num, rfl, HF1, HP1, HOk, by rw [HL1.out]; exact HTn, by rw [HL1.out]; exact HTS, hzz⟩
              case measure => simp [intOf]; omega
            | true =>
              rw [hacc] at HCA HAS
              have ck1 := HPk.out.hub.keptv
              have ck2 := HPk.out.hub.kept
              have fk2 := HPk.out.hub.fkept
              have HP1 : Hid (PS kp w0 (wr.setCell ⟨Ke, 0, none⟩ (.bool true)) D P R Gr Ca Ke Wa AB Ac run run (kept || (W.take (k + 1)).any D.acc) (.slice (some ⟨Q, 0, none⟩) l cap)) := by
                have h := HPk.out.setKept HC.out true
                rw [HAS.out]
                show PS _ _ _ _ _ _ _ _ _ _ _ _ _ _ _ _
                simpa using h
              have hQKe : Q ≠ Ke := fun e => HQ.out.1 (by unfold OneOf; simp [e])
              have HO1 : Hid ((wr.setCell ⟨Ke, 0, none⟩ (.bool true)).ownsRow bq 3 1 (.slice (some ⟨Q, 0, none⟩) l cap) l (ints N)) := HOk.out.kept (grown_setCell wr Ke 0 (.bool true)) (.inr (by simp [Value.ownBlock]; exact hQKe))
              have HT1 : Hid (TS (wr.setCell ⟨Ke, 0, none⟩ (.bool true)) Tk wt.heap.size ((W.take k).filter fun m => D.acc m && jb T false n m)) := HTS.out.setCell (fun e => HC.out.tk.2.2.1 e.symm) (HLT.out Ke (by unfold OneOf; simp)) _ _
              clear ca cab HPk HOk HTS
              obtain ⟨kz, hkz⟩ : ∃ kz : Bool, kz = (kept || (W.take k).any D.acc) := ⟨_, rfl⟩
              rw [← hkz] at ck2
              clear hkz
              go_wp2_with fail
              refine (keep30 hmP HCB.out HCA.out).mono ?_
              rintro e w1 ⟨rfl, hw1⟩
              subst w1
              clear HCA HCB
              go_wp2_with fail
              have hsz1 : (wr.setCell ⟨Ke, 0, none⟩ (.bool true)).heap.size = wr.heap.size := by simp
              generalize wr.setCell ⟨Ke, 0, none⟩ (.bool true) = w2 at HP1 HO1 HT1 hsz1 ⊢
              have HZ2 : Hid (wt.heap.size ≤ w2.heap.size) := by show _ ≤ _; omega
              clear hsz1 cm ck1 ck2 fk2
              have HGr := (show Hid _ from HG.out.later HP1.out.below)
              refine (joins35 HGr.out m n hmP).mono ?_
              rintro e w3 ⟨rfl, hB3⟩
              have HP3 := (show Hid _ from HP1.out.later hB3)
              have HO3 : Hid (w3.ownsRow bq 3 1 (.slice (some ⟨Q, 0, none⟩) l cap) l (ints N)) := HO1.out.kept (row := none) ⟨hB3.os, hB3.tape, hB3.output, hB3.size, fun k hk _ => hB3.block k hk⟩ (.inr (by simp [Value.ownBlock]))
              have HT3 := (show Hid _ from HT1.out.later hB3)
              have hz3 : wt.heap.size ≤ w3.heap.size := by have := hB3.size; have := HZ2.out; omega
              clear HP1 HO1 HT1 hB3 HGr HZ2
              have HJ : Hid (jb T false n m = joinB T m n) := rfl
              cases hjb : joinB T m n with
              | true =>
                have HF1 : Hid (Filt (fun m => D.acc m && !jb T false n m) W N i (k + 1)) := HFi.out.drop hkW (by rw [HMe.out]; simp [HJ.out, hjb])
                have HL1 : Hid (((W.take (k + 1)).filter fun m => D.acc m && jb T false n m) = ((W.take k).filter fun m => D.acc m && jb T false n m) ++ [m]) := by show _ = _; rw [HFS.out]; simp [hacc, HJ.out, hjb]
                clear hacc hjb
                obtain ⟨tv, t1, t2, t3⟩ := HT3.out
                go_wp2_with fail
                refine (take31 m (by rw [HTn.out]; omega) hTkl hz3 t1 t2 t3).mono ?_
                rintro e w4 ⟨rfl, ⟨tv', s1, s2⟩, s3, hbut⟩
                have HP4 := (show Hid _ from HP3.out.but hbut hbase HC.out.ge.2.2.2.2.2.2 HC.out.tkOut HLT.out)
                have HO4 : Hid (w4.ownsRow bq 3 1 (.slice (some ⟨Q, 0, none⟩) l cap) l (ints N)) := by
                  refine ⟨HO3.out.1, ?_⟩
                  rcases HO3.out.2 with h | ⟨g', cap', cur', a1, a2, a3, a4⟩
                  · exact .inl h
                  · simp only [Value.slice.injEq, Option.some.injEq, Addr.mk.injEq, and_true, true_and] at a1
                    obtain ⟨rfl, rfl⟩ := a1
                    exact .inr ⟨Q, cap, cur', rfl, a2, by rw [hbut.block Q hQl HQ.out.2]; exact a3, a4⟩
                have HT4 : Hid (TS w4 Tk wt.heap.size ((W.take (k + 1)).filter fun m => D.acc m && jb T false n m)) := by
                  rw [HL1.out]
                  exact ⟨tv', s1, s3, by rw [List.length_append]; exact s2⟩
                have hz4 : wt.heap.size ≤ w4.heap.size := by have := hbut.size; omega
                clear t1 t2 t3 s1 s2 s3 hbut HP3 HO3 HT3
                go_wp2_with fail
                go_roundw
                case rel => exact ⟨k + 1, i, tn + 1, N, by omega, by omega, by omega, by go_num, rfl, HF1, HP4, HO4, by show _ = _; rw [HL1.out, List.length_append, HTn.out]; rfl, HT4, hz4⟩
                case measure => simp [intOf]; omega
              | false =>
                have HF1 : Hid (Filt (fun m => D.acc m && !jb T false n m) W (N.set i m) (i + 1) (k + 1)) := by have := HFi.out.keep hkW (by rw [HMe.out]; simp [hacc, HJ.out, hjb]); rw [HMe.out] at this; exact this
                have HL1 : Hid (((W.take (k + 1)).filter fun m => D.acc m && jb T false n m) = ((W.take k).filter fun m => D.acc m && jb T false n m)) := by show _ = _; rw [HFS.out]; simp [HJ.out, hjb]
                clear hacc hjb
                go_wp2_with (at_builtin; refine wpList_append_set _ rfl _ _ 22 rfl bq 3 i0 Try.underlying22 HI3.out.1 HI3.out.2.2.1 Q l i cap _ rfl (HO3.out.alloc _) (by omega) ⟨w3.heap.size, 0, none⟩ 1 (.int .i64 (m : Int)) rfl (by rw [World.cell?_alloc_at _ _ _ _ rfl]; rfl) rfl ?_)
                intro w4 hown hgrow
                have hga := World.grownBy_alloc w3 (.cells #[.int .i64 (m : Int)] 3) none
                have HP4 := (show Hid _ from (HP3.out.grown hga (fun g hg => by cases hg)).grown hgrow (fun g hg => by simp at hg; subst hg; exact ⟨hQ0, HQ.out.1⟩))
                have HO4 : Hid (w4.ownsRow bq 3 1 (.slice (some ⟨Q, 0, none⟩) l cap) l (ints (N.set i m))) := by show World.ownsRow _ _ _ _ _ _ _; rw [← ints_set]; exact hown
                have HT4 : Hid (TS w4 Tk wt.heap.size ((W.take (k + 1)).filter fun m => D.acc m && jb T false n m)) := by
                  rw [HL1.out]
                  exact TS.same (TS.same HT3.out hga (fun g hg => by cases hg)) hgrow (fun g hg => by simp at hg; subst hg; exact ⟨HQ.out.2, hQl⟩)
                have hz4 : wt.heap.size ≤ w4.heap.size := by have := hgrow.size; simp at this; omega
                clear hown hgrow hga HP3 HO3 HT3
                go_wp2_with fail
                go_roundw
                case rel => exact ⟨k + 1, i + 1, tn, N.set i m, by omega, by omega, by omega, by go_num, rfl, HF1, HP4, HO4, by rw [HL1.out]; exact HTn, HT4, hz4⟩
                case measure => simp [intOf]; omega
          · obtain rfl : k = l := by omega
            have x5 := HPk.out.hub.waitv
            have x6 := HPk.out.hub.wait
            have x7 := HPk.out.hub.fwait
            have x8 := HPk.out.hub.keptv
            have x9 := HPk.out.hub.kept
            have hne1 : Wa ≠ R := fun e => HC.out.rows.2.2.1 e.symm
            have hne2 : Wa ≠ Ke := fun e => HC.out.rows.2.2.2.2.2 e.symm
            have hQWa : Q ≠ Wa := fun e => HQ.out.1 (by unfold OneOf; simp [e])
            have HKe : Hid ((kept || (W.take k).any D.acc) = (kept || W.any D.acc)) := by show _ = _; rw [HWL.out, List.take_length]
            rw [HKe.out] at x9
            have hfin : Hid (PassPost kp w0 D P R Gr Ca Ke Wa AB Ac Tk bq run (kept || W.any D.acc) (W.filter fun m => D.acc m && jb T false n m) (W.filter fun m => D.acc m && !jb T false n m) (.returned (.bool (kept || W.any D.acc))) (wr.setCell ⟨Wa, 0, none⟩ (.slice (some ⟨Q, 0, none⟩) i cap))) := by
              have hF := HFi.out
              rw [HWL.out] at hF
              have hd := hF.done
              have hNl : N.length = k := by rw [hF.len, ← HWL.out]
              have hil : (W.filter fun m => D.acc m && !jb T false n m).length = i := by rw [← hd, List.length_take, hNl]; omega
              have hp := HPk.out.setWait HC.out (.slice (some ⟨Q, 0, none⟩) i cap)
              rw [HKe.out] at hp
              refine ⟨rfl, wt.heap.size, ⟨_, hp, ?_, fun g hg => ?_⟩, ?_, HLT.out⟩
              · have h1 := HOk.out.kept (grown_setCell wr Wa 0 (.slice (some ⟨Q, 0, none⟩) i cap)) (.inr (by simp [Value.ownBlock]; exact hQWa))
                rw [hil, ← hd]
                have h2 := owns_shrink h1 (show i ≤ k by omega)
                unfold ints at h2 ⊢
                rw [List.map_take]
                exact h2
              · simp [Value.ownBlock] at hg
                subst hg
                exact ⟨HQ.out, hQl⟩
              · have h1 := HTS.out
                rw [HWL.out, List.take_length] at h1
                exact h1.setCell (fun e => HC.out.tk.2.2.2.1 e.symm) (HLT.out Wa (by unfold OneOf; simp)) _ _
            have o1 : (wr.setCell ⟨Wa, 0, none⟩ (.slice (some ⟨Q, 0, none⟩) i cap)).cell? ⟨R, 4, none⟩ = some (.slice (some ⟨Ke, 0, none⟩) 1 1) := by rw [World.cell?_setCell_other _ _ _ _ (by intro e; injection e; omega)]; exact x8
            have o2 : (wr.setCell ⟨Wa, 0, none⟩ (.slice (some ⟨Q, 0, none⟩) i cap)).cell? ⟨Ke, 0, none⟩ = some (.bool (kept || W.any D.acc)) := by rw [World.cell?_setCell_other _ _ _ _ (by intro e; injection e; omega)]; exact x9
            obtain ⟨kk, hkk⟩ : ∃ kk : Bool, kk = (kept || W.any D.acc) := ⟨_, rfl⟩
            have hfin2 : Hid (PassPost kp w0 D P R Gr Ca Ke Wa AB Ac Tk bq run (kept || W.any D.acc) (W.filter fun m => D.acc m && jb T false n m) (W.filter fun m => D.acc m && !jb T false n m) (.returned (.bool kk)) (wr.setCell ⟨Wa, 0, none⟩ (.slice (some ⟨Q, 0, none⟩) i cap))) := by rw [hkk]; exact hfin
            rw [← hkk] at o2 x9
            clear hkk hfin
            clear HPk HOk HTS HFi
            go_wp2_with fail
            go_ret
            exact ⟨_, kept, ⟨HK0.out, HWc.out⟩, hfin2.out⟩

end Go.Proofs.Qxb6612538a
