import Derived.Test.Qxb6612538aHubB
namespace Go.Proofs.Qxb6612538a
open Go.ChangeShapes Go.WideShapes Go.ChangeAt Go.RowKit

section
variable {w : World} {Gr st ps pd : Nat} {sa : Option Addr} {sc P M : Nat} {T : Nat → List Nat} {fr to : Nat → Nat} {p0 : Nat} {pe : List Nat}

set_option maxHeartbeats 1000000 in
theorem kind42 (h : Graph w Gr st ps pd sa sc P M T fr to p0 pe) :
    Calls Try.prog 42 #[.pointer (some ⟨Gr, 0, none⟩), .int .i64 P] w fun e w' => e = .returned (.int .u8 4) ∧ w' = w := by
  have HK : Hid (∀ k, k < 5 → w.cell? ⟨Gr, 5 + k, none⟩ = some (.int .i64 P)) := h.kinds
  have c5 := h.kind5
  have hsm := h.small
  clear h
  go_enter Try.func42, Try.ntmps42
  go_wp2_with fail
  go_loop [5] (fun v5 => ∃ k : Nat, k ≤ 4 ∧ v5 = .int .u8 k) (fun v5 => 4 - (intOf v5).toNat)
  case atStart => exact ⟨0, by omega, rfl⟩
  case round =>
    obtain ⟨k, hk, rfl⟩ := hrel
    by_cases h4 : k < 4
    · have ck := HK.out (k + 1) (by omega)
      clear c5
      go_wp2_with fail
      go_round
      case rel => exact ⟨k + 1, by omega, by go_num⟩
      case measure => simp [intOf]; omega
    · obtain rfl : k = 4 := by omega
      go_wp2_with fail
      go_ret
      exact ⟨rfl, rfl⟩

/-- What 'joins' gives: the hub stands for the step from u to v. -/
def joinB (T : Nat → List Nat) (u v : Nat) : Bool := !(u == v) && !decide (v ∈ T u)

set_option maxHeartbeats 1000000 in
theorem joins35 (h : Graph w Gr st ps pd sa sc P M T fr to p0 pe) (u v : Nat) (hu : u < P) :
    Calls Try.prog 35 #[.pointer (some ⟨Gr, 0, none⟩), .int .i64 P, .int .i64 u, .int .i64 v] w fun e w' => e = .returned (.bool (joinB T u v)) ∧ Below w.heap.size w w' := by
  have HG : Hid (Graph w Gr st ps pd sa sc P M T fr to p0 pe) := h
  clear h
  by_cases huv : u = v
  · have hj : Hid (joinB T u v = false) := by show _ = _; simp [joinB, huv]
    have e1 : ((u : Int) == (v : Int)) = true := by simp; omega
    clear huv
    go_enter Try.func35, Try.ntmps35
    go_wp2_with fail
    go_ret
    rw [hj.out]
    exact ⟨rfl, Below.refl _ _⟩
  · have e1 : ((u : Int) == (v : Int)) = false := by simp; omega
    by_cases hm : v ∈ T u
    · have hj : Hid (joinB T u v = false) := by show _ = _; simp [joinB, hm]
      have hd : Hid (decide (v ∈ T u) = true) := by show _ = _; simp [hm]
      clear huv hm
      go_enter Try.func35, Try.ntmps35
      go_wp2_with fail
      refine (leads41 HG.out u (by omega) v).mono ?_
      rintro e w1 ⟨rfl, hB⟩
      rw [hd.out]
      have HB := (show Hid _ from hB)
      clear hB
      go_wp2_with fail
      go_ret
      rw [hj.out]
      exact ⟨rfl, HB.out⟩
    · have hj : Hid (joinB T u v = true) := by show _ = _; simp [joinB, hm, huv]
      have hd : Hid (decide (v ∈ T u) = false) := by show _ = _; simp [hm]
      clear huv hm
      go_enter Try.func35, Try.ntmps35
      go_wp2_with fail
      refine (leads41 HG.out u (by omega) v).mono ?_
      rintro e w1 ⟨rfl, hB⟩
      rw [hd.out]
      have HB : Hid (Below w.heap.size w w1) := hB
      have HG1 := (show Hid _ from HG.out.later hB)
      clear hB
      go_wp2_with fail
      refine (kind42 HG1.out).mono ?_
      rintro e w2 ⟨rfl, hw⟩
      subst w2
      go_wp2_with fail
      go_quiet (fail)
      go_wp2_with fail
      go_ret
      rw [hj.out]
      exact ⟨rfl, below_drewN HB.out _⟩

/-- What 'fromAbove' gives: the steps of u from place i on. -/
def AbovePost (w : World) (T : Nat → List Nat) (bs u : Nat) (t : Int) (e : Ending) (w' : World) : Prop :=
  ∃ a c i found, e = .returned (.slice a ((T u).length - i) c) ∧ Place (fun j => (T u).getD j 0) (T u).length t i found ∧ (T u).length - i ≤ c ∧ (i < (T u).length → a = some ⟨bs, (pre T u + i) * 6, none⟩) ∧ Below w.heap.size w w'

theorem AbovePost.empty {w' : World} {bs u : Nat} {t : Int} {found : Bool} (hz : (T u).length = 0) (hp : Place (fun j => (T u).getD j 0) (T u).length t 0 found) (a : Option Addr) (c : Nat) (hB : Below w.heap.size w w') :
    AbovePost w T bs u t (.returned (.slice a 0 c)) w' :=
  ⟨a, c, 0, found, by rw [hz], hp, by omega, fun h => by omega, hB⟩

set_option maxHeartbeats 1000000 in
theorem above33 (h : Graph w Gr st ps pd sa sc P M T fr to p0 pe) (u : Nat) (hu : u ≤ P) (t : Int) :
    Calls Try.prog 33 #[.pointer (some ⟨Gr, 0, none⟩), .int .i64 u, .int .i64 t] w fun e w' => AbovePost w T (stepsAt sa) u t e w' := by
  have HG : Hid (Graph w Gr st ps pd sa sc P M T fr to p0 pe) := h
  have hseg := h.seg hu
  have hsm := h.small
  clear h
  go_enter Try.func33, Try.ntmps33
  go_wp2_with fail
  refine (stepTo36 HG.out u hu t).mono ?_
  rintro e w1 ⟨i, found, rfl, hp, hB⟩
  have HP := (show Hid _ from hp)
  have hi : i ≤ (T u).length := hp.le
  have HB : Hid (Below w.heap.size w w1) := hB
  have HG1 := (show Hid _ from HG.out.later hB)
  clear hp hB
  go_wp2_with fail
  refine (from37' HG1.out u hu).mono ?_
  rintro e w2 ⟨a, c, rfl, hc1, hc2, ha, hform, q, hw⟩
  subst hw
  unfold maxLen at hc2
  have HA : Hid (0 < (T u).length → a = some ⟨stepsAt sa, pre T u * 6, none⟩) := ha
  have HB2 : Hid (Below w.heap.size w (w1.drewN q)) := below_drewN HB.out q
  clear ha HG HG1 HB
  generalize w1.drewN q = w3 at HB2 ⊢
  by_cases hn : 0 < (T u).length
  · have ea := HA.out hn
    subst ea
    obtain ⟨n, hN⟩ : ∃ n, n = (T u).length := ⟨_, rfl⟩
    have HNN : Hid (n = (T u).length) := hN
    rw [← hN] at hi hn hc1 hseg ⊢
    clear hN HA
    go_wp2_with fail
    all_goals go_ret
    all_goals unfold AbovePost
    all_goals rw [← HNN.out] at HP ⊢
    · exact ⟨_, _, i, found, rfl, HP.out, by omega, fun h => by omega, HB2.out⟩
    · exact ⟨_, _, i, found, rfl, HP.out, by omega, fun h => by congr 2; omega, HB2.out⟩
  · have hz : (T u).length = 0 := by omega
    obtain rfl : i = 0 := by omega
    have HNN : Hid ((T u).length = 0) := hz
    rw [hz] at hc1 ⊢
    clear hz hn HA hseg hi
    rcases hform with ⟨rfl, rfl⟩ | ⟨o, rfl⟩
    all_goals go_wp2_with fail
    all_goals go_ret
    all_goals exact AbovePost.empty HNN.out HP.out _ _ HB2.out

/-! ### The steps into the hub -/
theorem close39 (h : Graph w Gr st ps pd sa sc P M T fr to p0 pe) (bx e : Nat) (he : e < M) (t : Int) (hbx : w.cell? ⟨bx, 0, none⟩ = some (.pointer (some ⟨Gr, 0, none⟩))) :
    Calls Try.prog 39 #[.int .i64 e, .int .i64 t, .pointer (some ⟨bx, 0, none⟩)] w fun r w' => r = .returned (.int .i64 (cmpI (fr e) t)) ∧ w' = w := by
  have c1 := h.steps
  have hsm := h.small
  obtain ⟨bs, rfl, hS⟩ : ∃ bs, sa = some ⟨bs, 0, none⟩ ∧ Steps w bs 0 M fr to := by
    rcases h.row with ⟨h1, _, _⟩ | ⟨_, bs, h2, h3⟩
    · omega
    · exact ⟨bs, h2, h3⟩
  obtain ⟨k, q, s, p, e0, _, _, _, _, _⟩ := hS e he
  rw [Nat.zero_add] at e0
  clear h hS
  generalize fr e = z at e0 ⊢
  go_enter Try.func39, Try.ntmps39
  go_wp2_with fail
  refine (cmp40 _ _ _).mono ?_
  rintro r w' ⟨rfl, hw⟩
  subst w'
  go_wp2_with fail
  go_ret
  exact ⟨rfl, rfl⟩

/-- The numbers of the steps into the hub, in a row. -/
def IRow (w : World) (b o n : Nat) (f : Nat → Nat) : Prop := ∀ j, j < n → w.cell? ⟨b, o + j, none⟩ = some (.int .i64 (f j))

set_option maxHeartbeats 1000000 in
theorem bsf38 (h : Graph w Gr st ps pd sa sc P M T fr to p0 pe) (bx : Nat) (hbx : w.cell? ⟨bx, 0, none⟩ = some (.pointer (some ⟨Gr, 0, none⟩)))
    (b o n cap : Nat) (f : Nat → Nat) (t : Int) (hn : n ≤ 1048576) (hf : ∀ j, j < n → f j < M) (hs : ∀ i j, i < j → j < n → fr (f i) < fr (f j)) (hw : IRow w b o n f) :
    Calls Try.prog 38 #[.slice (some ⟨b, o, none⟩) n cap, .int .i64 t, .func (.func 39) #[] #[.pointer (some ⟨bx, 0, none⟩)]] w fun e w' => Searched (fun j => fr (f j)) n t w e w' := by
  have HG : Hid (Graph w Gr st ps pd sa sc P M T fr to p0 pe) := h
  have HX : Hid (w.cell? ⟨bx, 0, none⟩ = some (.pointer (some ⟨Gr, 0, none⟩))) := hbx
  have HW : Hid (IRow w b o n f) := hw
  have HS : Hid (∀ i j, i < j → j < n → fr (f i) < fr (f j)) := hs
  have HF : Hid (∀ j, j < n → f j < M) := hf
  clear hw hs h hbx hf
  go_enter Try.func38, Try.ntmps38
  go_wp2_with fail
  go_loop [9, 10, 11] (fun v9 v10 _ => ∃ i j : Nat, v9 = .int .i64 i ∧ v10 = .int .i64 j ∧ i ≤ j ∧ j ≤ n ∧ Hid (∀ k, k < i → (fr (f k) : Int) < t) ∧ Hid (∀ k, j ≤ k → k < n → t ≤ (fr (f k) : Int))) (fun v9 v10 _ => (intOf v10 - intOf v9).toNat)
  case atStart => exact ⟨0, n, rfl, rfl, by omega, by omega, fun k hk => by omega, fun k h1 h2 => by omega⟩
  case round =>
    obtain ⟨i, j, rfl, rfl, hij, hjn, HL, HH⟩ := hrel
    by_cases hlt : i < j
    · have hm1 : i ≤ (i + j) / 2 := by omega
      have hm2 : (i + j) / 2 < j := by omega
      have e0 := HW.out ((i + j) / 2) (by omega)
      have hfm := HF.out ((i + j) / 2) (by omega)
      obtain ⟨x, HX1⟩ : ∃ x, Hid (f ((i + j) / 2) = x) := ⟨_, rfl⟩
      rw [HX1.out] at e0 hfm
      obtain ⟨v, HV⟩ : ∃ v, Hid (fr x = v) := ⟨_, rfl⟩
      by_cases hv : (v : Int) < t
      · have hc : Hid (cmpI v t = -1) := by show _ = _; simp [cmpI, hv]
        go_wp2_with fail
        refine (close39 HG.out bx x hfm t HX.out).mono ?_
        rintro e w1 ⟨rfl, hw1⟩
        subst w1
        rw [HV.out, hc.out]
        clear e0
        go_wp2_with fail
        go_round
        case rel =>
          refine ⟨(i + j) / 2 + 1, j, by go_num, rfl, by omega, hjn, fun k' hk' => ?_, HH.out⟩
          by_cases e : k' = (i + j) / 2
          · rw [e, HX1.out, HV.out]; exact hv
          · have := HS.out k' ((i + j) / 2) (by omega) (by omega)
            rw [HX1.out, HV.out] at this
            omega
        case measure => simp [intOf]; omega
      · have hc2 : ¬ cmpI v t < 0 := by unfold cmpI; split <;> (try split) <;> omega
        go_wp2_with fail
        refine (close39 HG.out bx x hfm t HX.out).mono ?_
        rintro e w1 ⟨rfl, hw1⟩
        subst w1
        rw [HV.out]
        clear e0
        generalize cmpI v t = z at hc2 ⊢
        go_wp2_with fail
        go_round
        case rel =>
          refine ⟨i, (i + j) / 2, rfl, by go_num, by omega, by omega, HL.out, fun k' h1 h2 => ?_⟩
          by_cases e : k' = (i + j) / 2
          · rw [e, HX1.out, HV.out]; omega
          · have := HS.out ((i + j) / 2) k' (by omega) (by omega)
            rw [HX1.out, HV.out] at this
            omega
        case measure => simp [intOf]; omega
    · have eij : j = i := by omega
      subst eij
      by_cases hin : j < n
      · have e0 := HW.out j hin
        have hfm := HF.out j hin
        have hge := HH.out j (Nat.le_refl _) hin
        obtain ⟨x, HX1⟩ : ∃ x, Hid (f j = x) := ⟨_, rfl⟩
        rw [HX1.out] at e0 hfm hge
        obtain ⟨v, HV⟩ : ∃ v, Hid (fr x = v) := ⟨_, rfl⟩
        rw [HV.out] at hge
        by_cases hv : (v : Int) = t
        · have hc : Hid (cmpI v t = 0) := by show _ = _; simp [cmpI, hv]
          have HVT : Hid ((v : Int) = t) := hv
          clear hv
          go_wp2_with fail
          refine (close39 HG.out bx x hfm t HX.out).mono ?_
          rintro e w1 ⟨rfl, hw1⟩
          subst w1
          rw [HV.out, hc.out]
          clear e0
          go_wp2_with fail
          go_ret2
          exact ⟨j, true, rfl, ⟨by omega, HL.out, HH.out, by rw [HX1.out, HV.out]; simp [hin, HVT.out]⟩, Below.refl _ _⟩
        · have hc : (cmpI v t == 0) = false := by rw [beq_eq_false_iff_ne]; unfold cmpI; split <;> (try split) <;> omega
          have HVT : Hid (¬ (v : Int) = t) := hv
          clear hv
          go_wp2_with fail
          refine (close39 HG.out bx x hfm t HX.out).mono ?_
          rintro e w1 ⟨rfl, hw1⟩
          subst w1
          rw [HV.out]
          clear e0
          generalize cmpI v t = z at hc ⊢
          go_wp2_with fail
          go_ret2
          exact ⟨j, false, rfl, ⟨by omega, HL.out, HH.out, by rw [HX1.out, HV.out]; simp [HVT.out]⟩, Below.refl _ _⟩
      · go_wp2_with fail
        go_ret2
        exact ⟨j, false, rfl, ⟨by omega, HL.out, HH.out, by simp [hin]⟩, Below.refl _ _⟩

theorem bsf38_empty (a : Option Addr) (cap : Nat) (to : Nat → Nat) (t : Int) (f : Value) :
    Calls Try.prog 38 #[.slice a 0 cap, .int .i64 t, f] w fun e w' => Searched to 0 t w e w' := by
  go_enter Try.func38, Try.ntmps38
  go_wp2_with fail
  go_loop [9, 10, 11] (fun v9 v10 _ => v9 = .int .i64 0 ∧ v10 = .int .i64 0) (fun _ _ _ => 0)
  case atStart => exact ⟨rfl, rfl⟩
  case round =>
    obtain ⟨rfl, rfl⟩ := hrel
    go_wp2_with fail
    go_ret2
    exact ⟨0, false, rfl, ⟨by omega, fun j hj => by omega, fun j _ hj => by omega, by simp⟩, Below.refl _ _⟩

end

end Go.Proofs.Qxb6612538a
