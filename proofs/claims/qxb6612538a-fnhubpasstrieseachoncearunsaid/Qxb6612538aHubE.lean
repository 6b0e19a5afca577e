import Derived.Test.Qxb6612538aAbove
namespace Go.Proofs.Qxb6612538a
open Go.ChangeShapes Go.WideShapes Go.ChangeAt Go.RowKit

/-- The nodes as plain data. -/
structure ND where
  into : Nat → Bool
  frm : Nat → Bool
  acc : Nat → Bool
  nx : Nat → List Int

/-- The slice value v holds the numbers xs. -/
def Row (w : World) (v : Value) (xs : List Int) : Prop :=
  ∃ a c, v = .slice a xs.length c ∧ xs.length ≤ 9223372036854775807 ∧ (xs.length = 0 ∨ ∃ b o, a = some ⟨b, o, none⟩ ∧ ∀ j, j < xs.length → w.cell? ⟨b, o + j, none⟩ = some (.int .i64 (xs.getD j 0)))

theorem Row.later {w w' : World} {v : Value} {xs : List Int} (h : Row w v xs) (hb : Below w.heap.size w w') : Row w' v xs := by
  obtain ⟨a, c, h1, h2, h3⟩ := h
  refine ⟨a, c, h1, h2, ?_⟩
  rcases h3 with h3 | ⟨b, o, h3, h4⟩
  · exact .inl h3
  · exact .inr ⟨b, o, h3, fun j hj => cell_later hb (h4 j hj)⟩

/-- The nodes lie at ⟨b, off⟩, four cells each. -/
structure Nodes (w : World) (b off P : Nat) (D : ND) : Prop where
  into : ∀ i, i < P → w.cell? ⟨b, off + i * 4, none⟩ = some (.bool (D.into i))
  frm : ∀ i, i < P → w.cell? ⟨b, off + i * 4 + 1, none⟩ = some (.bool (D.frm i))
  acc : ∀ i, i < P → w.cell? ⟨b, off + i * 4 + 2, none⟩ = some (.bool (D.acc i))
  next : ∀ i, i < P → ∃ v, w.cell? ⟨b, off + i * 4 + 3, none⟩ = some v ∧ Row w v (D.nx i)

theorem Nodes.later {w w' : World} {b off P : Nat} {D : ND} (h : Nodes w b off P D) (hb : Below w.heap.size w w') : Nodes w' b off P D :=
  ⟨fun i hi => cell_later hb (h.into i hi), fun i hi => cell_later hb (h.frm i hi), fun i hi => cell_later hb (h.acc i hi), fun i hi => by obtain ⟨v, h1, h2⟩ := h.next i hi; exact ⟨v, cell_later hb h1, h2.later hb⟩⟩

/-- A bool comes back; where it is true, p. -/
def BoolIf (p : Prop) (e : Ending) : Prop := ∃ b : Bool, e = .returned (.bool b) ∧ (b = true → p)

/-- No list is longer than the law's bound. -/
def LenOK (D : ND) (P : Nat) : Prop := P ≤ 1048576 ∧ ∀ i, i < P → (D.nx i).length ≤ 1048576

section
variable {w : World} {b off P cap : Nat} {D : ND}

set_option maxHeartbeats 400000 in
theorem bytes12 (hP : P ≤ 9223372036854775807) (h : Nodes w b off P D) (x y : Int) (z : Bool) :
    Calls Try.prog 12 #[.slice (some ⟨b, off, none⟩) P cap, .int .i64 x, .int .i64 y, .bool z] w fun e w' => BoolIf (LenOK D P) e ∧ w' = w := by
  have HN : Hid (Nodes w b off P D) := h
  clear h
  by_cases hb : P ≤ 1048576
  · go_enter Try.func12, Try.ntmps12
    go_wp2_with fail
    go_loop [9, 10] (fun v9 v10 => ∃ k T : Nat, k ≤ P ∧ T ≤ 1048576 ∧ v10 = .int .i64 k ∧ v9 = .int .i64 T ∧ Hid (∀ i, i < k → (D.nx i).length ≤ 1048576)) (fun _ v10 => P - (intOf v10).toNat)
    case atStart => exact ⟨0, P, Nat.zero_le _, hb, rfl, rfl, fun i hi => by omega⟩
    case round =>
      obtain ⟨k, T, hk, hT, rfl, rfl, HL⟩ := hrel
      by_cases hlt : k < P
      · obtain ⟨v, hc, a, c, rfl, hl, _⟩ := HN.out.next k hlt
        obtain ⟨n, hn⟩ : ∃ n, n = (D.nx k).length := ⟨_, rfl⟩
        rw [← hn] at hc hl
        have HNL : Hid (n = (D.nx k).length) := hn
        clear hn
        by_cases h1 : n ≤ 1048576
        · by_cases h2 : T + n ≤ 1048576
          · go_wp2_with fail
            go_round
            case rel =>
              refine ⟨k + 1, T + n, by omega, h2, by go_num, by go_num, fun i hi => ?_⟩
              by_cases e : i = k
              · rw [e, ← HNL.out]; exact h1
              · exact HL.out i (by omega)
            case measure => simp [intOf]; omega
          · go_wp2_with fail
            go_ret
            exact ⟨⟨false, rfl, fun h => by cases h⟩, rfl⟩
        · go_wp2_with fail
          go_ret
          exact ⟨⟨false, rfl, fun h => by cases h⟩, rfl⟩
      · obtain rfl : k = P := by omega
        go_wp2_with fail
        go_ret
        exact ⟨⟨true, rfl, fun _ => ⟨hb, HL.out⟩⟩, rfl⟩
  · go_enter Try.func12, Try.ntmps12
    go_wp2_with fail
    go_ret
    exact ⟨⟨false, rfl, fun h => by cases h⟩, rfl⟩

/-- The bytes that the nodes hold, as the law counts them. -/
def tot (D : ND) : Nat → Nat
  | 0 => 0
  | k + 1 => tot D k + (32 + 8 * (D.nx k).length)

set_option maxHeartbeats 400000 in
theorem ok13 (hP : P ≤ 1048576) (hL : ∀ i, i < P → (D.nx i).length ≤ 1048576) (h : Nodes w b off P D) :
    Calls Try.prog 13 #[.slice (some ⟨b, off, none⟩) P cap] w fun e w' => BoolIf (tot D P ≤ 1048576) e ∧ w' = w := by
  have HN : Hid (Nodes w b off P D) := h
  have HL : Hid (∀ i, i < P → (D.nx i).length ≤ 1048576) := hL
  clear h hL
  go_enter Try.func13, Try.ntmps13
  go_wp2_with fail
  go_loop [3, 4] (fun v3 v4 => ∃ k T : Nat, k ≤ P ∧ T ≤ 1048576 ∧ v4 = .int .i64 k ∧ v3 = .int .i64 T ∧ Hid (tot D k = T)) (fun _ v4 => P - (intOf v4).toNat)
  case atStart => exact ⟨0, 0, Nat.zero_le _, by omega, rfl, rfl, rfl⟩
  case round =>
    obtain ⟨k, T, hk, hT, rfl, rfl, HT⟩ := hrel
    by_cases hlt : k < P
    · obtain ⟨v, hc, a, c, rfl, hl, _⟩ := HN.out.next k hlt
      have h1 := HL.out k hlt
      obtain ⟨n, hn⟩ : ∃ n, n = (D.nx k).length := ⟨_, rfl⟩
      rw [← hn] at hc hl h1
      have HT2 : Hid (tot D (k + 1) = T + (32 + 8 * n)) := by show _ = _; rw [← HT.out, hn]; rfl
      clear hn
      by_cases h2 : T + (32 + 8 * n) ≤ 1048576
      · go_wp2_with fail
        go_round
        case rel => exact ⟨k + 1, T + (32 + 8 * n), by omega, h2, by go_num, by go_num, HT2⟩
        case measure => simp [intOf]; omega
      · go_wp2_with fail
        go_ret
        exact ⟨⟨false, rfl, fun h => by cases h⟩, rfl⟩
    · obtain rfl : k = P := by omega
      go_wp2_with fail
      go_ret
      exact ⟨⟨true, rfl, fun _ => by rw [HT.out]; exact hT⟩, rfl⟩

/-- Increasing numbers below P, none of them i. -/
structure NextOK (P i : Nat) (l : List Int) : Prop where
  low : ∀ j, j < l.length → 0 ≤ l.getD j 0
  high : ∀ j, j < l.length → l.getD j 0 < P
  self : ∀ j, j < l.length → l.getD j 0 ≠ i
  sorted : ∀ j k, j < k → k < l.length → l.getD j 0 < l.getD k 0

/-- .. as far as the first m. -/
structure NextTo (P i : Nat) (l : List Int) (m : Nat) (p : Int) : Prop where
  low : ∀ j, j < m → 0 ≤ l.getD j 0
  high : ∀ j, j < m → l.getD j 0 < P
  self : ∀ j, j < m → l.getD j 0 ≠ i
  sorted : ∀ j k, j < k → k < m → l.getD j 0 < l.getD k 0
  last : ∀ j, j < m → l.getD j 0 ≤ p
  ge : -1 ≤ p

theorem NextTo.step {P i : Nat} {l : List Int} {m : Nat} {p x : Int} (h : NextTo P i l m p) (hx : l.getD m 0 = x) (h1 : p < x) (h2 : x < P) (h3 : x ≠ i) : NextTo P i l (m + 1) x := by
  have hg := h.ge
  refine ⟨fun j hj => ?_, fun j hj => ?_, fun j hj => ?_, fun j k h4 h5 => ?_, fun j hj => ?_, by omega⟩
  · by_cases e : j = m
    · rw [e, hx]; omega
    · exact h.low j (by omega)
  · by_cases e : j = m
    · rw [e, hx]; exact h2
    · exact h.high j (by omega)
  · by_cases e : j = m
    · rw [e, hx]; exact h3
    · exact h.self j (by omega)
  · by_cases e : k = m
    · rw [e, hx]
      have := h.last j (by omega)
      omega
    · exact h.sorted j k h4 (by omega)
  · by_cases e : j = m
    · rw [e, hx]; exact Int.le_refl _
    · have := h.last j (by omega)
      omega

set_option maxHeartbeats 1000000 in
theorem ok14 (hP : P ≤ 1048576) (hL : ∀ i, i < P → (D.nx i).length ≤ 1048576) (h : Nodes w b off P D) :
    Calls Try.prog 14 #[.slice (some ⟨b, off, none⟩) P cap] w fun e w' => BoolIf (∀ i, i < P → NextOK P i (D.nx i)) e ∧ w' = w := by
  have HN : Hid (Nodes w b off P D) := h
  have HL : Hid (∀ i, i < P → (D.nx i).length ≤ 1048576) := hL
  clear h hL
  go_enter Try.func14, Try.ntmps14
  go_wp2_with fail
  go_loop [4, 5, 7] (fun v4 _ _ => ∃ k : Nat, k ≤ P ∧ v4 = .int .i64 k ∧ Hid (∀ i, i < k → NextOK P i (D.nx i))) (fun v4 _ _ => P - (intOf v4).toNat)
  case atStart => exact ⟨0, Nat.zero_le _, rfl, fun i hi => by omega⟩
  case round =>
    obtain ⟨k, hk, rfl, HO⟩ := hrel
    by_cases hlt : k < P
    · obtain ⟨v, hc, a, c, rfl, hl, hrow⟩ := HN.out.next k hlt
      have h1 := HL.out k hlt
      have HR := (show Hid _ from hrow)
      obtain ⟨n, hn⟩ : ∃ n, n = (D.nx k).length := ⟨_, rfl⟩
      rw [← hn] at hc hl h1 HR
      have HNL : Hid (n = (D.nx k).length) := hn
      clear hn hrow
      go_wp2_with fail
      go_loop [5, 7, 21] (fun v5 _ v21 => ∃ (m : Nat) (p : Int), m ≤ n ∧ -1 ≤ p ∧ p ≤ 9223372036854775807 ∧ v21 = .int .i64 m ∧ v5 = .int .i64 p ∧ Hid (NextTo P k (D.nx k) m p)) (fun _ _ v21 => n - (intOf v21).toNat)
      case atStart => exact ⟨0, -1, Nat.zero_le _, by omega, by omega, rfl, rfl, ⟨fun j hj => by omega, fun j hj => by omega, fun j hj => by omega, fun j k _ hk => by omega, fun j hj => by omega, by omega⟩⟩
      case round =>
        obtain ⟨m, p, hm, hp1, hp2, rfl, rfl, HT⟩ := hrel
        by_cases hmn : m < n
        · obtain ⟨b1, o1, ha, hcell⟩ : ∃ b1 o1, a = some ⟨b1, o1, none⟩ ∧ ∀ j, j < n → w.cell? ⟨b1, o1 + j, none⟩ = some (.int .i64 ((D.nx k).getD j 0)) := by
            rcases HR.out with hz | h
            · omega
            · exact h
          have cm := hcell m hmn
          obtain ⟨x, HX⟩ : ∃ x, Hid ((D.nx k).getD m 0 = x) := ⟨_, rfl⟩
          rw [HX.out] at cm
          subst ha
          clear hcell
          by_cases x1 : x ≤ p
          · go_wp2_with fail
            go_ret
            exact ⟨⟨false, rfl, fun h => by cases h⟩, rfl⟩
          by_cases x2 : x < P
          · by_cases x3 : x = k
            · have e3 : (x == (k : Int)) = true := by simp [x3]
              clear x3
              go_wp2_with fail
              go_ret
              exact ⟨⟨false, rfl, fun h => by cases h⟩, rfl⟩
            · have e3 : (x == (k : Int)) = false := by simp [x3]
              have X3 : Hid (¬ x = k) := x3
              clear x3
              go_wp2_with fail
              go_round
              case rel => exact ⟨m + 1, x, by omega, by omega, by omega, by go_num, rfl, HT.out.step HX.out (by omega) x2 X3.out⟩
              case measure => simp [intOf]; omega
          · go_wp2_with fail
            go_ret
            exact ⟨⟨false, rfl, fun h => by cases h⟩, rfl⟩
        · obtain rfl : m = n := by omega
          have HO2 : Hid (∀ i, i < k + 1 → NextOK P i (D.nx i)) := fun i hi => by
            by_cases e : i = k
            · have ht := HT.out
              rw [HNL.out] at ht
              rw [e]
              exact ⟨ht.low, ht.high, ht.self, ht.sorted⟩
            · exact HO.out i (by omega)
          go_wp2_with fail
          go_round
          case rel => exact ⟨k + 1, by omega, by go_num, HO2⟩
          case measure => simp [intOf]; omega
    · obtain rfl : k = P := by omega
      go_wp2_with fail
      go_ret
      exact ⟨⟨true, rfl, fun _ => HO.out⟩, rfl⟩

theorem near15 (h : Nodes w b off P D) (n : Nat) (hn : n < P) (z : Bool) :
    Calls Try.prog 15 #[.slice (some ⟨b, off, none⟩) P cap, .int .i64 n, .bool z] w fun e w' => SomeBool e ∧ w' = w := by
  have c1 := h.into n hn
  have c2 := h.frm n hn
  clear h
  cases z
  all_goals
    go_enter Try.func15, Try.ntmps15
    go_wp2_with fail
    go_ret
    exact ⟨⟨_, rfl⟩, rfl⟩
end

end Go.Proofs.Qxb6612538a
