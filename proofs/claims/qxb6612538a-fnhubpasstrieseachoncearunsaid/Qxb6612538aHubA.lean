import Derived.Test.Qxb6612538aAbove
namespace Go.Proofs.Qxb6612538a
open Go.ChangeShapes Go.WideShapes Go.ChangeAt Go.RowKit

/-! ### cmp.Compare -/
theorem nan45 (x : Int) (w : World) : Calls Try.prog 45 #[.int .i64 x] w fun e w' => e = .returned (.bool false) ∧ w' = w := by
  have h : (x != x) = false := by simp
  go_enter Try.func45, Try.ntmps45
  go_wp2_with fail
  go_ret
  exact ⟨rfl, rfl⟩

/-- What cmp.Compare gives. -/
def cmpI (x y : Int) : Int := if x < y then -1 else if y < x then 1 else 0

theorem cmp40 (x y : Int) (w : World) : Calls Try.prog 40 #[.int .i64 x, .int .i64 y] w fun e w' => e = .returned (.int .i64 (cmpI x y)) ∧ w' = w := by
  by_cases h1 : x < y
  · have hc : Hid (cmpI x y = -1) := by show _ = _; simp [cmpI, h1]
    go_enter Try.func40, Try.ntmps40
    go_wp2_with (go_at_call 45; refine (nan45 _ _).mono ?_; rintro e w' ⟨rfl, rfl⟩)
    go_ret
    rw [hc.out]
    exact ⟨rfl, rfl⟩
  · by_cases h2 : y < x
    · have hc : Hid (cmpI x y = 1) := by show _ = _; simp [cmpI, h1, h2]
      go_enter Try.func40, Try.ntmps40
      go_wp2_with (go_at_call 45; refine (nan45 _ _).mono ?_; rintro e w' ⟨rfl, rfl⟩)
      go_ret
      rw [hc.out]
      exact ⟨rfl, rfl⟩
    · have hc : Hid (cmpI x y = 0) := by show _ = _; simp [cmpI, h1, h2]
      go_enter Try.func40, Try.ntmps40
      go_wp2_with (go_at_call 45; refine (nan45 _ _).mono ?_; rintro e w' ⟨rfl, rfl⟩)
      go_ret
      rw [hc.out]
      exact ⟨rfl, rfl⟩

/-! ### Steps in memory: six cells each -/
/-- The cells of the step from u to v; h: of real-time order. -/
def cells6 (u v : Nat) (h : Bool) : List Value := [.int .i64 u, .int .i64 v, .int .u8 (if h then 3 else 0), .string ByteArray.empty, .bool false, .int .u8 (if h then 4 else 0)]

theorem close44 (u v : Nat) (k q : Int) (s : ByteArray) (p : Bool) (t : Int) (w : World) :
    Calls Try.prog 44 #[.agg #[.int .i64 u, .int .i64 v, .int .u8 k, .string s, .bool p, .int .u8 q], .int .i64 t] w fun e w' => e = .returned (.int .i64 (cmpI v t)) ∧ Below w.heap.size w w' := by
  go_enter Try.func44, Try.ntmps44
  go_wp2_with fail
  refine (cmp40 _ _ _).mono ?_
  rintro e w' ⟨rfl, hw⟩
  subst hw
  go_wp2_with fail
  go_ret
  exact ⟨rfl, (Below.refl _ _).alloc (Nat.le_refl _) _⟩

/-- A row of n steps at ⟨b, o⟩. -/
def Steps (w : World) (b o n : Nat) (fr to : Nat → Nat) : Prop := ∀ j, j < n → ∃ k q : Int, ∃ s : ByteArray, ∃ p : Bool,
  w.cell? ⟨b, o + j * 6, none⟩ = some (.int .i64 (fr j)) ∧ w.cell? ⟨b, o + j * 6 + 1, none⟩ = some (.int .i64 (to j)) ∧ w.cell? ⟨b, o + j * 6 + 2, none⟩ = some (.int .u8 k) ∧
  w.cell? ⟨b, o + j * 6 + 3, none⟩ = some (.string s) ∧ w.cell? ⟨b, o + j * 6 + 4, none⟩ = some (.bool p) ∧ w.cell? ⟨b, o + j * 6 + 5, none⟩ = some (.int .u8 q)

theorem Steps.later {w w' : World} {b o n : Nat} {fr to : Nat → Nat} (h : Steps w b o n fr to) (hb : Below w.heap.size w w') : Steps w' b o n fr to := fun j hj => by
  obtain ⟨k, q, s, p, h0, h1, h2, h3, h4, h5⟩ := h j hj
  exact ⟨k, q, s, p, cell_later hb h0, cell_later hb h1, cell_later hb h2, cell_later hb h3, cell_later hb h4, cell_later hb h5⟩

/-- The place of t among n increasing numbers, and whether it is there. -/
structure Place (to : Nat → Nat) (n : Nat) (t : Int) (i : Nat) (found : Bool) : Prop where
  le : i ≤ n
  low : ∀ j, j < i → (to j : Int) < t
  high : ∀ j, i ≤ j → j < n → t ≤ (to j : Int)
  hit : found = true ↔ i < n ∧ (to i : Int) = t

/-- What a binary search gives. -/
def Searched (to : Nat → Nat) (n : Nat) (t : Int) (w : World) (e : Ending) (w' : World) : Prop :=
  ∃ i found, e = .returned (.tuple #[.int .i64 (i : Nat), .bool found]) ∧ Place to n t i found ∧ Below w.heap.size w w'

set_option maxHeartbeats 1000000 in
theorem bsf43 (b o n cap : Nat) (fr to : Nat → Nat) (t : Int) (hn : n ≤ 1048576) (hs : ∀ i j, i < j → j < n → to i < to j) (w : World) (hw : Steps w b o n fr to) :
    Calls Try.prog 43 #[.slice (some ⟨b, o, none⟩) n cap, .int .i64 t, .func (.func 44) #[] #[]] w fun e w' => Searched to n t w e w' := by
  have HW : Hid (Steps w b o n fr to) := hw
  have HS : Hid (∀ i j, i < j → j < n → to i < to j) := hs
  clear hw hs
  go_enter Try.func43, Try.ntmps43
  go_wp2_with fail
  go_loopw [9, 10, 11] (fun v9 v10 _ wz => ∃ i j : Nat, v9 = .int .i64 i ∧ v10 = .int .i64 j ∧ i ≤ j ∧ j ≤ n ∧ Hid (∀ k, k < i → (to k : Int) < t) ∧ Hid (∀ k, j ≤ k → k < n → t ≤ (to k : Int)) ∧ Hid (Below w.heap.size w wz)) (fun v9 v10 _ _ => (intOf v10 - intOf v9).toNat)
  case atStart => exact ⟨0, n, rfl, rfl, by omega, by omega, fun k hk => by omega, fun k h1 h2 => by omega, Below.refl _ _⟩
  case round =>
    obtain ⟨i, j, rfl, rfl, hij, hjn, HL, HH, HB⟩ := hrel
    by_cases hlt : i < j
    · obtain ⟨k, q, st, p, e0, e1, e2, e3, e4, e5⟩ := (HW.out.later HB.out) ((i + j) / 2) (by omega)
      have hm1 : i ≤ (i + j) / 2 := by omega
      have hm2 : (i + j) / 2 < j := by omega
      obtain ⟨v, HV⟩ : ∃ v, Hid (to ((i + j) / 2) = v) := ⟨_, rfl⟩
      rw [HV.out] at e1
      by_cases hv : (v : Int) < t
      · have hc : Hid (cmpI v t = -1) := by show _ = _; simp [cmpI, hv]
        go_wp2_with fail
        refine (close44 _ _ _ _ _ _ _ _).mono ?_
        rintro e w1 ⟨rfl, hB1⟩
        rw [hc.out]
        have HB1 : Hid (Below w.heap.size w w1) := HB.out.trans (hB1.mono HB.out.size)
        clear hB1 e0 e1 e2 e3 e4 e5
        go_wp2_with fail
        go_roundw
        case rel =>
          refine ⟨(i + j) / 2 + 1, j, by go_num, rfl, by omega, hjn, fun k' hk' => ?_, HH.out, HB1.out⟩
          by_cases e : k' = (i + j) / 2
          · rw [e, HV.out]; exact hv
          · have := HS.out k' ((i + j) / 2) (by omega) (by omega)
            rw [HV.out] at this
            omega
        case measure => simp [intOf]; omega
      · have hc : Hid (¬ cmpI v t < 0) := by show ¬ _; unfold cmpI; split <;> (try split) <;> omega
        have hc2 : ¬ cmpI v t < 0 := hc.out
        go_wp2_with fail
        refine (close44 _ _ _ _ _ _ _ _).mono ?_
        rintro e w1 ⟨rfl, hB1⟩
        have HB1 : Hid (Below w.heap.size w w1) := HB.out.trans (hB1.mono HB.out.size)
        clear hB1 e0 e1 e2 e3 e4 e5
        generalize cmpI v t = z at hc2 ⊢
        go_wp2_with fail
        go_roundw
        case rel =>
          refine ⟨i, (i + j) / 2, rfl, by go_num, by omega, by omega, HL.out, fun k' h1 h2 => ?_, HB1.out⟩
          by_cases e : k' = (i + j) / 2
          · rw [e, HV.out]; omega
          · have := HS.out ((i + j) / 2) k' (by omega) (by omega)
            rw [HV.out] at this
            omega
        case measure => simp [intOf]; omega
    · have eij : j = i := by omega
      subst eij
      by_cases hin : j < n
      · obtain ⟨k, q, st, p, e0, e1, e2, e3, e4, e5⟩ := (HW.out.later HB.out) j hin
        have hge := HH.out j (Nat.le_refl _) hin
        obtain ⟨v, HV⟩ : ∃ v, Hid (to j = v) := ⟨_, rfl⟩
        rw [HV.out] at e1 hge
        by_cases hv : (v : Int) = t
        · have hc : Hid (cmpI v t = 0) := by show _ = _; simp [cmpI, hv]
          have HVT : Hid ((v : Int) = t) := hv
          clear hv
          go_wp2_with fail
          refine (close44 _ _ _ _ _ _ _ _).mono ?_
          rintro e w1 ⟨rfl, hB1⟩
          rw [hc.out]
          have HB1 : Hid (Below w.heap.size w w1) := HB.out.trans (hB1.mono HB.out.size)
          clear hB1 e0 e1 e2 e3 e4 e5
          go_wp2_with fail
          go_ret2
          exact ⟨j, true, rfl, ⟨by omega, HL.out, HH.out, by rw [HV.out]; simp [hin, HVT.out]⟩, HB1.out⟩
        · have hc : (cmpI v t == 0) = false := by rw [beq_eq_false_iff_ne]; unfold cmpI; split <;> (try split) <;> omega
          have HVT : Hid (¬ (v : Int) = t) := hv
          clear hv
          go_wp2_with fail
          refine (close44 _ _ _ _ _ _ _ _).mono ?_
          rintro e w1 ⟨rfl, hB1⟩
          have HB1 : Hid (Below w.heap.size w w1) := HB.out.trans (hB1.mono HB.out.size)
          clear hB1 e0 e1 e2 e3 e4 e5
          generalize cmpI v t = z at hc ⊢
          go_wp2_with fail
          go_ret2
          exact ⟨j, false, rfl, ⟨by omega, HL.out, HH.out, by rw [HV.out]; simp [HVT.out]⟩, HB1.out⟩
      · go_wp2_with fail
        go_ret2
        exact ⟨j, false, rfl, ⟨by omega, HL.out, HH.out, by simp [hin]⟩, HB.out⟩

theorem bsf43_empty (a : Option Addr) (cap : Nat) (to : Nat → Nat) (t : Int) (f : Value) (w : World) :
    Calls Try.prog 43 #[.slice a 0 cap, .int .i64 t, f] w fun e w' => Searched to 0 t w e w' := by
  go_enter Try.func43, Try.ntmps43
  go_wp2_with fail
  go_loop [9, 10, 11] (fun v9 v10 _ => v9 = .int .i64 0 ∧ v10 = .int .i64 0) (fun _ _ _ => 0)
  case atStart => exact ⟨rfl, rfl⟩
  case round =>
    obtain ⟨rfl, rfl⟩ := hrel
    go_wp2_with fail
    go_ret2
    exact ⟨0, false, rfl, ⟨by omega, fun j hj => by omega, fun j _ hj => by omega, by simp⟩, Below.refl _ _⟩

end Go.Proofs.Qxb6612538a
