import Derived.Test.Qxb6612497aW4a
import Derived.BigRegion
import Derived.Deep.QuietTactic
import Derived.BigQuiet
namespace Go.Proofs.Qxb6612497a
open Go.ChangeShapes Go.WideShapes Go.ChangeAt Go.RowKit

set_option maxRecDepth 100000 in
set_option maxHeartbeats 4000000 in
theorem walk4 (a0 : Option Addr) (l0 c0 : Nat) (s : Nat → ByteArray) (a1 : Option Addr) (l1 c1 : Nat) (S : Nat → Bool) (w : World)
    (h0 : IsRow Value.string w a0 l0 c0 s) (hs : ∀ i, i < l0 → (s i).size ≤ maxLen) (h1 : IsRow Value.bool w a1 l1 c1 S) :
    Calls Try.prog 4 #[.slice a0 l0 c0, .slice a1 l1 c1] w fun e w' => Yes w e w' := by
  have H0 : Hid (IsRow Value.string w a0 l0 c0 s) := h0
  have H1 : Hid (IsRow Value.bool w a1 l1 c1 S) := h1
  have HS : Hid (∀ i, i < l0 → (s i).size ≤ maxLen) := hs
  have m0 := h0.le
  have m1 := h1.le
  clear h0 h1 hs
  obtain ⟨i0, hi, hz0, hz1, hz2⟩ := info_parts info28
  obtain ⟨i32, hi32⟩ := info32
  go_enter Try.func4, Try.ntmps4
  go_wp2_with fail
  refine (bytes8 _ _ _ s _ _ _ _ H0.out HS.out (by unfold maxLen; omega)).mono ?_
  rintro e w' ⟨⟨b, rfl⟩, hw⟩
  subst w'
  cases b
  case false =>
    go_wp2_with fail
    go_ret
    exact ⟨rfl, Below.refl _ _⟩
  by_cases ha : l0 ≤ 65536
  case neg =>
    go_wp2_with fail
    go_ret
    exact ⟨rfl, Below.refl _ _⟩
  by_cases hb : l1 ≤ 65536
  case neg =>
    go_wp2_with fail
    go_ret
    exact ⟨rfl, Below.refl _ _⟩
  go_wp2_with fail
  refine (size6 _ _ _ s _ H0.out HS.out).mono ?_
  rintro e w' ⟨⟨T, b, hT, rfl⟩, hw⟩
  subst w'
  cases b
  case false =>
    go_wp2_with fail
    go_ret
    exact ⟨rfl, Below.refl _ _⟩
  by_cases hc : T + l1 ≤ 1048576
  case neg =>
    go_wp2_with fail
    go_ret
    exact ⟨rfl, Below.refl _ _⟩
  by_cases he : l0 = l1
  case neg =>
    have he' : ((l0 : Int) != (l1 : Int)) = true := by rw [bne_iff_ne]; omega
    go_wp2_with fail
    go_ret
    exact ⟨rfl, Below.refl _ _⟩
  subst he
  go_wp2_with (at_make; refine wpList_make_full _ rfl _ _ 27 rfl w.heap.size 28 i0 (.pointer none) 1 Try.underlying27 hi hz0 hz1 _ _ _ _ l0 rfl rfl rfl rfl (by rw [hz2]; omega) (by unfold maxLen; omega) (Nat.le_refl _) ?_)
  intro w1 hown hgrow
  have hb0 : Hid (Built w w1 l0 0 [] s S) := Built.start hown hgrow
  clear hown hgrow hi hz0 hz1 hz2
  go_wp2_with fail
  go_loopw [8, 9] (fun v8 v9 wr => ∃ (k c : Nat) (L : List Nat), v8 = .int .i64 c ∧ v9 = .int .i64 k ∧ k ≤ l0 ∧ c ≤ k ∧ Hid (cnt S k = c) ∧ Hid (Built w wr l0 k L s S)) (fun _ v9 _ => l0 - (intOf v9).toNat)
  case atStart => exact ⟨0, 0, [], rfl, rfl, by omega, by omega, rfl, hb0⟩
  case round =>
    obtain ⟨k, c, L, rfl, rfl, hk, hck, HCn, HB⟩ := hrel
    by_cases hlt : k < l0
    · rcases H0.out with hz | ⟨b0, o0, rfl, hl0, hm0, hc0⟩
      · omega
      rcases H1.out with hz | ⟨b1, o1, rfl, hl1, hm1, hc1⟩
      · omega
      have ck0 : wr.cell? ⟨b0, o0 + k, none⟩ = some (.string (s k)) := cell_later HB.out.below (hc0 k hlt)
      have ck1 : wr.cell? ⟨b1, o1 + k, none⟩ = some (.bool (S k)) := cell_later HB.out.below (hc1 k hlt)
      have hsz := HB.out.size
      have n0 : b0 < w.heap.size := World.block_lt_of_cell? _ _ (hc0 k hlt)
      have n1 : b1 < w.heap.size := World.block_lt_of_cell? _ _ (hc1 k hlt)
      clear hc0 hc1
      have ckG : ∃ old, wr.cell? ⟨w.heap.size, k, none⟩ = some old := by
        have hl := HB.out.own.1
        rw [HB.out.own.cellAt k (by omega), List.getElem?_eq_getElem (by omega)]
        exact ⟨_, rfl⟩
      obtain ⟨old, ckG⟩ := ckG
      have fkG := HB.out.own.frozenAt k
      have hk0 : (0 : Int) ≤ (k : Int) := by omega
      have hk1 : (k : Int) < (l0 : Int) := by omega
      have HCn2 : Hid (cnt S (k + 1) = c + if S k = true then 1 else 0) := by rw [← HCn.out]; rfl
      have n1' : b1 < wr.heap.size := by omega
      cases hSk : S k with
      | false =>
        rw [hSk] at ck1 HCn2
        have HB' := (show Hid _ from (HB.out.step' hlt).drew)
        rw [hSk] at HB'
        have HCn3 : Hid (cnt S (k + 1) = c) := HCn2
        clear HCn2 hSk
        go_wp2_with fail
        go_region
        go_wp2_with fail
        go_roundw
        case rel => exact ⟨k + 1, c, L ++ [wr.heap.size], rfl, by go_num, by omega, by omega, HCn3, HB'⟩
        case measure => simp [intOf]; omega
      | true =>
        rw [hSk] at ck1 HCn2
        have HB' := (show Hid _ from (HB.out.step' hlt).drew)
        rw [hSk] at HB'
        have HCn3 : Hid (cnt S (k + 1) = c + 1) := HCn2
        clear HCn2 hSk
        go_wp2_with fail
        go_region
        go_wp2_with fail
        go_roundw
        case rel => exact ⟨k + 1, c + 1, L ++ [wr.heap.size], by go_num, by go_num, by omega, by omega, HCn3, HB'⟩
        case measure => simp [intOf]; omega
    · have ek : k = l0 := by omega
      have HB2 : Hid (Built w wr l0 l0 L s S) := by rw [ek] at HB; exact HB
      have HC2 : Hid (cnt S l0 = c) := by rw [ek] at HCn; exact HCn
      clear HB ek HCn
      obtain ⟨hpr, hfl⟩ := HB2.out.flags
      generalize hsf : flagAt wr = sf at hpr hfl
      have HF : Hid (∀ i, i < l0 → sf (L.getD i 0) = S i) := hfl
      have HPR : Hid (Props wr L sf) := hpr
      have hsz := HB2.out.size
      clear hsf hfl hpr
      go_wp2_with fail
      have bel0 : Below wr.heap.size wr (wr.alloc (Obj.cells #[Value.slice none 0 0, Value.slice none 0 0, Value.slice none 0 0, Value.slice none 0 0, Value.slice (some { block := w.heap.size, off := 0 }) l0 l0, Value.slice none 0 0, Value.slice none 0 0, Value.slice none 0 0, Value.slice none 0 0] 42)) := (Below.refl _ _).alloc (Nat.le_refl _) _
      refine (safe7 L sf wr.heap.size w.heap.size l0 l0 HB2.out.len ha _ (by simp [go_sem]) (fun i hi => cell_alloc (HB2.out.cells i hi)) (HPR.out.below bel0)).mono ?_
      rintro e w2 ⟨g, cap, rfl, hown, hB⟩
      have FX : Hid (Facts w w2 l0 g cap wr.heap.size L (L.filter sf) sf s S) := Facts.of HB2.out HPR.out (by simp [go_sem]) hB hown
      have HCR : Hid ((L.filter sf).length = c) := by rw [cnt_filter_all sf L S l0 HB2.out.len HF.out]; exact HC2
      have HFF := HF
      clear hB hown bel0 HPR HB2 HC2 HF
      generalize L.filter sf = R at FX HCR
      have hRl : R.length ≤ l0 := by rw [HCR.out]; omega
      have hRc : ((R.length : Int) != (c : Int)) = false := by simp [HCR.out]
      generalize wr.heap.size = mb at FX hsz
      go_wp2_with fail
      go_loop [12] (fun v12 => ∃ k2 : Nat, v12 = .int .i64 k2 ∧ k2 ≤ R.length) (fun v12 => R.length - (intOf v12).toNat)
      case atStart => exact ⟨0, rfl, by omega⟩
      case round =>
        obtain ⟨k2, rfl, hk2⟩ := hrel
        by_cases hlt2 : k2 < R.length
        · have cR : w2.cell? ⟨g, k2, none⟩ = some (ptr (R.getD k2 0)) := row_cell FX.out.own hlt2
          have cF := FX.out.mem hlt2
          generalize R.getD k2 0 = p at cR cF
          unfold ptr at cR
          go_wp2_with fail
          go_round
          case rel => exact ⟨k2 + 1, by go_num, by omega⟩
          case measure => simp [intOf]; omega
        · have cM := FX.out.model
          go_wp2_with fail
          clear cM
          go_loopw [13] (fun v13 wz => ∃ k3 q : Nat, v13 = .int .i64 k3 ∧ k3 ≤ l0 ∧ wz = w2.drewN q) (fun v13 _ => l0 - (intOf v13).toNat)
          case atStart => exact ⟨0, 0, rfl, by omega, rfl⟩
          case round =>
            obtain ⟨k3, q, rfl, hk3, rfl⟩ := hrel
            by_cases hlt3 : k3 < l0
            · rcases H0.out with hz | ⟨b0, o0, rfl, hl0, hm0, hc0⟩
              · omega
              rcases H1.out with hz | ⟨b1, o1, rfl, hl1, hm1, hc1⟩
              · omega
              have ck0 : w2.cell? ⟨b0, o0 + k3, none⟩ = some (.string (s k3)) := cell_later FX.out.below (hc0 k3 hlt3)
              have ck1 : w2.cell? ⟨b1, o1 + k3, none⟩ = some (.bool (S k3)) := cell_later FX.out.below (hc1 k3 hlt3)
              have cM := FX.out.model
              have cP := FX.out.props k3 hlt3
              have cS := FX.out.safe k3 hlt3
              have cL := FX.out.label k3 hlt3
              generalize L.getD k3 0 = p at cP cS cL
              unfold ptr at cP
              generalize S k3 = b at ck1 cS
              generalize s k3 = t at ck0 cL
              clear hc0 hc1
              have npp : ∀ (w : World), (binOp .neq 28 (.pointer (some ⟨p, 0, none⟩)) (.pointer (some ⟨p, 0, none⟩))).run Try.prog w = .ok (.bool false) w := fun w => Lib.run_neq_ptr_same w _ Try.underlying28 hi32
              have k30 : (0 : Int) ≤ (k3 : Int) := by omega
              have k31 : (k3 : Int) < (l0 : Int) := by omega
              go_wp2_with fail
              go_quiet (fail)
              go_wp2_with fail
              go_roundw
              case rel => exact ⟨k3 + 1, q + nq, by go_num, by omega, rfl⟩
              case measure => simp [intOf]; omega
            · have FX3 := (show Hid _ from FX.out.drewN q)
              clear FX
              generalize w2.drewN q = w3 at FX3 ⊢
              go_wp2_with fail
              have bel1 : Below w3.heap.size w3 (w3.alloc (Obj.cells #[Value.slice none 0 0, Value.slice none 0 0, Value.slice none 0 0, Value.slice none 0 0, Value.slice (some { block := g, off := 0 }) R.length cap, Value.slice none 0 0, Value.slice none 0 0, Value.slice none 0 0, Value.slice none 0 0] 42)) := (Below.refl _ _).alloc (Nat.le_refl _) _
              refine (safe7 R sf w3.heap.size g R.length cap rfl (by omega) _ (by simp [go_sem]) (fun i hi => cell_alloc (row_cell FX3.out.own hi)) (FX3.out.again.2.below bel1)).mono ?_
              rintro e w4 ⟨ga, capa, rfl, hownA, hBA⟩
              have FX4 : Hid (Facts w w4 l0 g cap mb L R sf s S) := FX3.out.later (bel1.trans (hBA.mono (by simp)))
              have eA := FX3.out.again.1
              rw [eA] at hownA ⊢
              have OA : Hid (∀ k, k < R.length → w4.cell? ⟨ga, k, none⟩ = some (ptr (R.getD k 0))) := fun k hk => row_cell hownA hk
              clear eA hownA hBA bel1 FX3
              have eRR : ((R.length : Int) != (R.length : Int)) = false := by simp
              go_wp2_with fail
              go_loopw [16] (fun v16 wz => ∃ k4 q : Nat, v16 = .int .i64 k4 ∧ k4 ≤ R.length ∧ wz = w4.drewN q) (fun v16 _ => R.length - (intOf v16).toNat)
              case atStart => exact ⟨0, 0, rfl, by omega, rfl⟩
              case round =>
                obtain ⟨k4, q4, rfl, hk4, rfl⟩ := hrel
                by_cases hlt4 : k4 < R.length
                · have cR : w4.cell? ⟨g, k4, none⟩ = some (ptr (R.getD k4 0)) := row_cell FX4.out.own hlt4
                  have cA := OA.out k4 hlt4
                  generalize R.getD k4 0 = p at cR cA
                  unfold ptr at cR cA
                  have npp : ∀ (w : World), (binOp .neq 28 (.pointer (some ⟨p, 0, none⟩)) (.pointer (some ⟨p, 0, none⟩))).run Try.prog w = .ok (.bool false) w := fun w => Lib.run_neq_ptr_same w _ Try.underlying28 hi32
                  have k40 : (0 : Int) ≤ (k4 : Int) := by omega
                  have k41 : (k4 : Int) < (R.length : Int) := by omega
                  go_wp2_with fail
                  go_quiet (fail)
                  go_wp2_with fail
                  go_roundw
                  case rel => exact ⟨k4 + 1, q4 + nq, by go_num, by omega, rfl⟩
                  case measure => simp [intOf]; omega
                · have TX := (show Hid _ from (FX4.out.drewN q4).tail)
                  clear FX4 OA
                  generalize w4.drewN q4 = w5 at TX ⊢
                  go_wp2_with fail
                  go_loopw [17] (fun v17 wz => ∃ k5 : Nat, v17 = .int .i64 k5 ∧ k5 ≤ R.length ∧ Hid (Tail w wz l0 g cap mb R.length L)) (fun v17 _ => R.length - (intOf v17).toNat)
                  case atStart => exact ⟨0, rfl, by omega, TX⟩
                  case round =>
                    obtain ⟨k5, rfl, hk5, TX5⟩ := hrel
                    clear TX
                    by_cases hlt5 : k5 < R.length
                    · obtain ⟨old, cO⟩ := TX5.out.cell hlt5
                      have fO := TX5.out.frozen k5
                      go_wp2_with fail
                      go_roundw
                      case rel => exact ⟨k5 + 1, by go_num, by omega, TX5.out.store k5 _⟩
                      case measure => simp [intOf]; omega
                    · go_wp2_with fail
                      go_loopw [18] (fun v18 wz => ∃ k6 q : Nat, v18 = .int .i64 k6 ∧ k6 ≤ l0 ∧ wz = wr.drewN q) (fun v18 _ => l0 - (intOf v18).toNat)
                      case atStart => exact ⟨0, 0, rfl, by omega, rfl⟩
                      case round =>
                        obtain ⟨k6, q6, rfl, hk6, hwz⟩ := hrel
                        subst hwz
                        by_cases hlt6 : k6 < l0
                        · have cM := TX5.out.model
                          have cP := TX5.out.props k6 hlt6
                          generalize L.getD k6 0 = p at cP
                          unfold ptr at cP
                          have npp : ∀ (w : World), (binOp .neq 28 (.pointer (some ⟨p, 0, none⟩)) (.pointer (some ⟨p, 0, none⟩))).run Try.prog w = .ok (.bool false) w := fun w => Lib.run_neq_ptr_same w _ Try.underlying28 hi32
                          have k60 : (0 : Int) ≤ (k6 : Int) := by omega
                          have k61 : (k6 : Int) < (l0 : Int) := by omega
                          go_wp2_with fail
                          go_quiet (fail)
                          go_wp2_with fail
                          go_roundw
                          case rel => exact ⟨k6 + 1, q6 + nq, by go_num, by omega, rfl⟩
                          case measure => simp [intOf]; omega
                        · go_wp2_with fail
                          go_ret
                          exact ⟨rfl, below_drewN TX5.out.below q6⟩

end Go.Proofs.Qxb6612497a
