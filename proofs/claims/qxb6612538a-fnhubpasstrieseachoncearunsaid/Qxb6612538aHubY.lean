import Derived.Test.Qxb6612538aHubE
namespace Go.Proofs.Qxb6612538a
open Go.ChangeShapes Go.WideShapes Go.ChangeAt Go.RowKit

section
variable {w : World} {b off P cap : Nat} {D : ND}

set_option maxHeartbeats 400000 in
theorem bytes24 (hP : P ≤ 9223372036854775807) (h : Nodes w b off P D) (x y t : Int) (z : Bool) :
    Calls Try.prog 24 #[.slice (some ⟨b, off, none⟩) P cap, .int .i64 x, .int .i64 y, .int .i64 t, .bool z] w fun e w' => BoolIf (LenOK D P) e ∧ w' = w := by
  have HN : Hid (Nodes w b off P D) := h
  clear h
  by_cases hb : P ≤ 1048576
  · go_enter Try.func24, Try.ntmps24
    go_wp2_with fail
    go_loop [11, 12] (fun v9 v10 => ∃ k T : Nat, k ≤ P ∧ T ≤ 1048576 ∧ v10 = .int .i64 k ∧ v9 = .int .i64 T ∧ Hid (∀ i, i < k → (D.nx i).length ≤ 1048576)) (fun _ v10 => P - (intOf v10).toNat)
    case atStart => exact ⟨0, P, Nat.zero_le _, hb, rfl, rfl, fun i hi => by omega⟩
    case round =>
      obtain ⟨k, T, hk, hT, rfl, rfl, HL⟩ := hrel
      by_cases hlt : k < P
      · obtain ⟨v, hc, a, c, rfl, hl, _⟩ := HN.out.next k hlt
        obtain ⟨n, hn⟩ : ∃ n, n = (D.nx k).length := ⟨_, rfl⟩
        rw [← hn] at hc hl
        have HNL : Hid (n = (D.nx k).length) := hn
        clear hn
        by_cases h1 : n ≤ 1048576
        · by_cases h2 : T + n ≤ 1048576
          · go_wp2_with fail
            go_round
            case rel =>
              refine ⟨k + 1, T + n, by omega, h2, by go_num, by go_num, fun i hi => ?_⟩
              by_cases e : i = k
              · rw [e, ← HNL.out]; exact h1
              · exact HL.out i (by omega)
            case measure => simp [intOf]; omega
          · go_wp2_with fail
            go_ret
            exact ⟨⟨false, rfl, fun h => by cases h⟩, rfl⟩
        · go_wp2_with fail
          go_ret
          exact ⟨⟨false, rfl, fun h => by cases h⟩, rfl⟩
      · obtain rfl : k = P := by omega
        go_wp2_with fail
        go_ret
        exact ⟨⟨true, rfl, fun _ => ⟨hb, HL.out⟩⟩, rfl⟩
  · go_enter Try.func24, Try.ntmps24
    go_wp2_with fail
    go_ret
    exact ⟨⟨false, rfl, fun h => by cases h⟩, rfl⟩
end

/-! ### No nodes at all -/
section
variable (a : Option Addr) (cap : Nat) (w : World)

theorem bytes12_empty (x y : Int) (z : Bool) : Calls Try.prog 12 #[.slice a 0 cap, .int .i64 x, .int .i64 y, .bool z] w fun e w' => SomeBool e ∧ w' = w := by
  go_enter Try.func12, Try.ntmps12
  go_wp2_with fail
  go_loop [9, 10] (fun v9 v10 => v10 = .int .i64 0 ∧ v9 = .int .i64 0) (fun _ _ => 0)
  case atStart => exact ⟨rfl, rfl⟩
  case round =>
    obtain ⟨rfl, rfl⟩ := hrel
    go_wp2_with fail
    go_ret
    exact ⟨⟨true, rfl⟩, rfl⟩

theorem bytes24_empty (x y t : Int) (z : Bool) : Calls Try.prog 24 #[.slice a 0 cap, .int .i64 x, .int .i64 y, .int .i64 t, .bool z] w fun e w' => SomeBool e ∧ w' = w := by
  go_enter Try.func24, Try.ntmps24
  go_wp2_with fail
  go_loop [11, 12] (fun v9 v10 => v10 = .int .i64 0 ∧ v9 = .int .i64 0) (fun _ _ => 0)
  case atStart => exact ⟨rfl, rfl⟩
  case round =>
    obtain ⟨rfl, rfl⟩ := hrel
    go_wp2_with fail
    go_ret
    exact ⟨⟨true, rfl⟩, rfl⟩

theorem ok13_empty : Calls Try.prog 13 #[.slice a 0 cap] w fun e w' => SomeBool e ∧ w' = w := by
  go_enter Try.func13, Try.ntmps13
  go_wp2_with fail
  go_loop [3, 4] (fun v3 v4 => v4 = .int .i64 0 ∧ v3 = .int .i64 0) (fun _ _ => 0)
  case atStart => exact ⟨rfl, rfl⟩
  case round =>
    obtain ⟨rfl, rfl⟩ := hrel
    go_wp2_with fail
    go_ret
    exact ⟨⟨true, rfl⟩, rfl⟩

set_option maxRecDepth 100000 in
set_option maxHeartbeats 1000000 in
theorem law5_empty (n low : Int) (fwd : Bool) : Calls Try.prog 5 #[.slice a 0 cap, .int .i64 n, .int .i64 low, .bool fwd] w fun e w' => e = .returned (.bool true) ∧ w' = w := by
  go_enter Try.func5, Try.ntmps5
  go_wp2_with fail
  refine (bytes12_empty a cap w n low fwd).mono ?_
  rintro e w1 ⟨⟨b1, rfl⟩, hw⟩
  subst w1
  cases b1 with
  | false =>
    go_wp2_with fail
    go_ret
    exact ⟨rfl, rfl⟩
  | true =>
    go_wp2_with fail
    refine (ok13_empty a cap w).mono ?_
    rintro e w1 ⟨⟨b1, rfl⟩, hw⟩
    subst w1
    cases b1 with
    | false =>
      go_wp2_with fail
      go_ret
      exact ⟨rfl, rfl⟩
    | true =>
      by_cases hn0 : n < 0
      · go_wp2_with fail
        go_ret
        exact ⟨rfl, rfl⟩
      · have hnP : 0 ≤ n := by omega
        go_wp2_with fail
        go_ret
        exact ⟨rfl, rfl⟩

set_option maxRecDepth 100000 in
set_option maxHeartbeats 1000000 in
theorem law6_empty (n1 n2 low : Int) (fwd : Bool) : Calls Try.prog 6 #[.slice a 0 cap, .int .i64 n1, .int .i64 n2, .int .i64 low, .bool fwd] w fun e w' => e = .returned (.bool true) ∧ w' = w := by
  go_enter Try.func6, Try.ntmps6
  go_wp2_with fail
  refine (bytes24_empty a cap w n1 n2 low fwd).mono ?_
  rintro e w1 ⟨⟨b1, rfl⟩, hw⟩
  subst w1
  cases b1 with
  | false =>
    go_wp2_with fail
    go_ret
    exact ⟨rfl, rfl⟩
  | true =>
    go_wp2_with fail
    refine (ok13_empty a cap w).mono ?_
    rintro e w1 ⟨⟨b1, rfl⟩, hw⟩
    subst w1
    cases b1 with
    | false =>
      go_wp2_with fail
      go_ret
      exact ⟨rfl, rfl⟩
    | true =>
      by_cases hn0 : n1 < 0
      · go_wp2_with fail
        go_ret
        exact ⟨rfl, rfl⟩
      · have hnP : 0 ≤ n1 := by omega
        go_wp2_with fail
        go_ret
        exact ⟨rfl, rfl⟩
end

end Go.Proofs.Qxb6612538a
