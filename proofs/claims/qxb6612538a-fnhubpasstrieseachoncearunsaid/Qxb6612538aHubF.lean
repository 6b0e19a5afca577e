import Derived.Test.Qxb6612538aHubE
namespace Go.Proofs.Qxb6612538a
open Go.ChangeShapes Go.WideShapes Go.ChangeAt Go.RowKit

/-- Increasing. -/
def Incr (l : List Int) : Prop := ∀ j k, j < k → k < l.length → l.getD j 0 < l.getD k 0

theorem mem_getD {l : List Int} {x : Int} : x ∈ l ↔ ∃ j, j < l.length ∧ l.getD j 0 = x := by
  rw [List.mem_iff_getElem]
  constructor
  · rintro ⟨j, hj, h⟩
    exact ⟨j, hj, by simp [List.getD, List.getElem?_eq_getElem hj, h]⟩
  · rintro ⟨j, hj, h⟩
    refine ⟨j, hj, ?_⟩
    simpa [List.getD, List.getElem?_eq_getElem hj] using h

set_option maxHeartbeats 1000000 in
theorem has32 {w : World} {a : Option Addr} {c : Nat} (l : List Int) (hs : Incr l) (hl : l.length ≤ 1048576) (h : Row w (.slice a l.length c) l) (x : Int) :
    Calls Try.prog 32 #[.slice a l.length c, .int .i64 x] w fun e w' => e = .returned (.bool (decide (x ∈ l))) ∧ w' = w := by
  obtain ⟨a', c', h1, _, hr⟩ := h
  simp only [Value.slice.injEq, true_and] at h1
  obtain ⟨rfl, rfl⟩ := h1
  have HR := (show Hid _ from hr)
  have HS : Hid (Incr l) := hs
  clear hr hs
  obtain ⟨n, hn⟩ : ∃ n, n = l.length := ⟨_, rfl⟩
  rw [← hn] at hl HR ⊢
  have HNL : Hid (n = l.length) := hn
  clear hn
  go_enter Try.func32, Try.ntmps32
  go_wp2_with fail
  go_loop [5, 6, 7] (fun v5 v6 _ => ∃ i j : Nat, v5 = .int .i64 i ∧ v6 = .int .i64 j ∧ i ≤ j ∧ j ≤ n ∧ Hid (∀ k, k < i → l.getD k 0 < x) ∧ Hid (∀ k, j ≤ k → k < n → x ≤ l.getD k 0)) (fun v5 v6 _ => (intOf v6 - intOf v5).toNat)
  case atStart => exact ⟨0, n, rfl, rfl, by omega, by omega, fun k hk => by omega, fun k h1 h2 => by omega⟩
  case round =>
    obtain ⟨i, j, rfl, rfl, hij, hjn, HL, HH⟩ := hrel
    have hrow : 0 < n → ∃ b o, a = some ⟨b, o, none⟩ ∧ ∀ j, j < n → w.cell? ⟨b, o + j, none⟩ = some (.int .i64 (l.getD j 0)) := fun hp => by
      rcases HR.out with hz | h
      · omega
      · exact h
    by_cases hlt : i < j
    · obtain ⟨b, o, ha, hc⟩ := hrow (by omega)
      subst ha
      have hm1 : i ≤ i + (j - i) / 2 := by omega
      have hm2 : i + (j - i) / 2 < j := by omega
      have cm := hc (i + (j - i) / 2) (by omega)
      clear hc hrow
      obtain ⟨v, HV⟩ : ∃ v, Hid (l.getD (i + (j - i) / 2) 0 = v) := ⟨_, rfl⟩
      rw [HV.out] at cm
      by_cases hv : v < x
      · go_wp2_with fail
        go_round
        case rel =>
          refine ⟨i + (j - i) / 2 + 1, j, by go_num, rfl, by omega, hjn, fun k hk => ?_, HH.out⟩
          by_cases e : k = i + (j - i) / 2
          · rw [e, HV.out]; exact hv
          · have := HS.out k (i + (j - i) / 2) (by omega) (by rw [← HNL.out]; omega)
            rw [HV.out] at this
            omega
        case measure => simp [intOf]; omega
      · go_wp2_with fail
        go_round
        case rel =>
          refine ⟨i, i + (j - i) / 2, rfl, by go_num, by omega, by omega, HL.out, fun k h1 h2 => ?_⟩
          by_cases e : k = i + (j - i) / 2
          · rw [e, HV.out]; omega
          · have := HS.out (i + (j - i) / 2) k (by omega) (by rw [← HNL.out]; omega)
            rw [HV.out] at this
            omega
        case measure => simp [intOf]; omega
    · have eij : j = i := by omega
      subst eij
      by_cases hin : j < n
      · obtain ⟨b, o, ha, hc⟩ := hrow (by omega)
        subst ha
        have cm := hc j hin
        clear hc hrow
        obtain ⟨v, HV⟩ : ∃ v, Hid (l.getD j 0 = v) := ⟨_, rfl⟩
        rw [HV.out] at cm
        by_cases hv : v = x
        · have e1 : (v == x) = true := by simp [hv]
          have hd : Hid (decide (x ∈ l) = true) := by
            show _ = _
            rw [decide_eq_true_iff, mem_getD]
            exact ⟨j, by rw [← HNL.out]; exact hin, by rw [HV.out]; exact hv⟩
          clear hv
          go_wp2_with fail
          go_ret
          rw [hd.out]
          exact ⟨rfl, rfl⟩
        · have e1 : (v == x) = false := by simp [hv]
          have hd : Hid (decide (x ∈ l) = false) := by
            show _ = _
            rw [decide_eq_false_iff_not, mem_getD]
            rintro ⟨k, hk, hkx⟩
            rw [← HNL.out] at hk
            have h1 : ¬ k < j := fun h => by have := HL.out k h; omega
            have h2 : ¬ j < k := fun h => by
              have h3 := HS.out j k h (by rw [← HNL.out]; exact hk)
              have h4 := HH.out j (Nat.le_refl _) hin
              omega
            obtain rfl : k = j := by omega
            exact hv (by rw [← HV.out]; exact hkx)
          clear hv
          go_wp2_with fail
          go_ret
          rw [hd.out]
          exact ⟨rfl, rfl⟩
      · have hd : Hid (decide (x ∈ l) = false) := by
          show _ = _
          rw [decide_eq_false_iff_not, mem_getD]
          rintro ⟨k, hk, hkx⟩
          rw [← HNL.out] at hk
          have := HL.out k (by omega)
          omega
        clear hrow
        go_wp2_with fail
        go_ret
        rw [hd.out]
        exact ⟨rfl, rfl⟩

/-- The hub joins n to m, as the law itself says it. -/
def jn (D : ND) (fwd : Bool) (n m : Nat) : Bool := !(m == n) && !(if fwd then decide ((m : Int) ∈ D.nx n) else decide ((n : Int) ∈ D.nx m))

section
variable {w : World} {b off P cap : Nat} {D : ND}

theorem joined26 (h : Nodes w b off P D) (ho : ∀ i, i < P → Incr (D.nx i) ∧ (D.nx i).length ≤ 1048576) (n m : Nat) (hn : n < P) (hm : m < P) (fwd : Bool) :
    Calls Try.prog 26 #[.slice (some ⟨b, off, none⟩) P cap, .int .i64 n, .int .i64 m, .bool fwd] w fun e w' => e = .returned (.bool (jn D fwd n m)) ∧ w' = w := by
  have HN : Hid (Nodes w b off P D) := h
  have HO : Hid (∀ i, i < P → Incr (D.nx i) ∧ (D.nx i).length ≤ 1048576) := ho
  clear h ho
  by_cases hmn : m = n
  · have hj : Hid (jn D fwd n m = false) := by show _ = _; simp [jn, hmn]
    have e1 : ((m : Int) == (n : Int)) = true := by simp; omega
    clear hmn
    go_enter Try.func26, Try.ntmps26
    go_wp2_with fail
    go_ret
    rw [hj.out]
    exact ⟨rfl, rfl⟩
  · have e1 : ((m : Int) == (n : Int)) = false := by simp; omega
    cases fwd with
    | true =>
      have hj : Hid (jn D true n m = !decide ((m : Int) ∈ D.nx n)) := by show _ = _; simp [jn, hmn]
      clear hmn
      obtain ⟨v, hc, a, c, rfl, hrow⟩ := HN.out.next n hn
      have HR : Hid (Row w (.slice a (D.nx n).length c) (D.nx n)) := ⟨a, c, rfl, hrow⟩
      clear hrow
      go_enter Try.func26, Try.ntmps26
      go_wp2_with fail
      refine (has32 (D.nx n) (HO.out n hn).1 (HO.out n hn).2 HR.out m).mono ?_
      rintro e w' ⟨rfl, hw⟩
      subst w'
      go_wp2_with fail
      go_ret
      rw [hj.out]
      exact ⟨rfl, rfl⟩
    | false =>
      have hj : Hid (jn D false n m = !decide ((n : Int) ∈ D.nx m)) := by show _ = _; simp [jn, hmn]
      clear hmn
      obtain ⟨v, hc, a, c, rfl, hrow⟩ := HN.out.next m hm
      have HR : Hid (Row w (.slice a (D.nx m).length c) (D.nx m)) := ⟨a, c, rfl, hrow⟩
      clear hrow
      go_enter Try.func26, Try.ntmps26
      go_wp2_with fail
      refine (has32 (D.nx m) (HO.out m hm).1 (HO.out m hm).2 HR.out n).mono ?_
      rintro e w' ⟨rfl, hw⟩
      subst w'
      go_wp2_with fail
      go_ret
      rw [hj.out]
      exact ⟨rfl, rfl⟩
end

end Go.Proofs.Qxb6612538a
