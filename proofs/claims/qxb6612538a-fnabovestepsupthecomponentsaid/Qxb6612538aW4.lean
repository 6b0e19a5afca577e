import Derived.Test.Qxb6612538aW3
namespace Go.Proofs.Qxb6612538a
open Go.ChangeShapes Go.WideShapes Go.ChangeAt Go.RowKit

/-! ### The plain law -/
theorem above_none (f : Nat → Int) (s n : Nat) (h : ∀ j, s < j → j < n → f j ≠ f s) (m : Nat) (hm : m < n) : aboveB f s m = false := by
  unfold aboveB
  by_cases hlt : s < m
  · simp [h m hlt hm]
  · simp [hlt]

theorem above_next (f : Nat → Int) (s k : Nat) (hk : s < k) (he : f k = f s) (h : ∀ j, s < j → j < k → f j ≠ f s) (m : Nat) : aboveB f s m = (m == k || aboveB f k m) := by
  unfold aboveB
  rw [he]
  rcases Nat.lt_trichotomy m k with hlt | heq | hgt
  · have h1 : ¬ k < m := by omega
    have h2 : (m == k) = false := by simp; omega
    by_cases hs : s < m
    · simp [h m hs hlt, h1, h2]
    · simp [hs, h1, h2]
  · subst heq
    simp [hk, he]
  · have h2 : (m == k) = false := by simp; omega
    simp [hgt, h2, show s < m by omega]

theorem bytes11 (a : Option Addr) (n cap : Nat) (x : Int) (hn : n ≤ 9223372036854775807) (w : World) :
    Calls Try.prog 11 #[.slice a n cap, .int .i64 x] w fun e w' => SomeBool e ∧ w' = w := by
  by_cases h : n ≤ 1048576
  all_goals
    go_enter Try.func11, Try.ntmps11
    go_wp2_with fail
    go_ret
    exact ⟨⟨_, rfl⟩, rfl⟩

set_option maxRecDepth 100000 in
set_option maxHeartbeats 2000000 in
theorem walk4 (b off n cap : Nat) (f : Nat → Int) (x : Int) (hn : n ≤ 9223372036854775807) (w : World) (hc : Nums w b off n f) :
    Calls Try.prog 4 #[.slice (some ⟨b, off, none⟩) n cap, .int .i64 x] w fun e w' => Yes w e w' := by
  have HC : Hid (Nums w b off n f) := hc
  clear hc
  obtain ⟨i0, hi, hz0, hz1, hz2⟩ := info_parts info3
  have q22 : ∀ (w : World) (a : Option Addr) (n c : Nat), (binOp .neq 22 (.slice a n c) (.slice none 0 0)).run Try.prog w = .ok (.bool (!a.isNone)) w := fun w a n c => run_neq_slice_nil_any w _ _ a n c 0 0 Try.underlying22
  go_enter Try.func4, Try.ntmps4
  go_wp2_with fail
  refine (bytes11 _ _ _ _ hn _).mono ?_
  rintro e w' ⟨⟨t, rfl⟩, hw⟩
  subst w'
  cases t
  case false =>
    go_wp2_with fail
    go_ret
    exact ⟨rfl, Below.refl _ _⟩
  by_cases hn2 : n ≤ 131072
  case neg =>
    go_wp2_with fail
    go_ret
    exact ⟨rfl, Below.refl _ _⟩
  by_cases x0 : 0 ≤ x
  case neg =>
    go_wp2_with fail
    go_ret
    exact ⟨rfl, Below.refl _ _⟩
  by_cases x1 : x < n
  case neg =>
    go_wp2_with fail
    go_ret
    exact ⟨rfl, Below.refl _ _⟩
  obtain ⟨s, rfl⟩ := Int.eq_ofNat_of_zero_le x0
  go_wp2_with fail
  refine (comp8 b off n cap f (by omega) _ HC.out).mono ?_
  rintro e w' ⟨⟨t, rfl⟩, hw⟩
  subst w'
  cases t
  case false =>
    go_wp2_with fail
    go_ret
    exact ⟨rfl, Below.refl _ _⟩
  go_wp2_with (at_make; refine wpList_make_full _ rfl _ _ 22 rfl w.heap.size 3 i0 (.int .i64 0) 1 Try.underlying22 hi hz0 hz1 _ _ _ _ n rfl rfl rfl rfl (by rw [hz2]; omega) (by unfold maxLen; omega) (Nat.le_refl _) ?_)
  intro w1 hown hgrow
  obtain ⟨w2, hcp, HN, HB⟩ := copied (cap := cap) hown hgrow HC.out
  clear hown hgrow hi hz0 hz1 hz2 hn
  have hs : s < n := by omega
  go_wp2_with fail
  clear hcp q22 HC
  go_loopw [6, 7] (fun v6 v7 wz => ∃ i q : Nat, v6 = .int .i64 (-1) ∧ v7 = .int .i64 i ∧ s < i ∧ i ≤ n ∧ Hid (∀ j, s < j → j < i → f j ≠ f s) ∧ wz = w2.drewN q) (fun _ v7 _ => n - (intOf v7).toNat)
  case atStart => exact ⟨s + 1, 0, rfl, by go_num, by omega, by omega, fun j h1 h2 => by omega, rfl⟩
  case round =>
    obtain ⟨i, q, rfl, rfl, hsi, hin, HJ, rfl⟩ := hrel
    by_cases hlt : i < n
    · have c1 : w2.cell? ⟨w.heap.size, s, none⟩ = some (.int .i64 (f s)) := by have := HN.out s hs; rwa [Nat.zero_add] at this
      have c2 : w2.cell? ⟨w.heap.size, i, none⟩ = some (.int .i64 (f i)) := by have := HN.out i hlt; rwa [Nat.zero_add] at this
      have s0 : (0 : Int) ≤ (s : Int) := by omega
      have s1 : (s : Int) < (n : Int) := by omega
      have i0' : (0 : Int) ≤ (i : Int) := by omega
      have i1 : (i : Int) < (n : Int) := by omega
      by_cases hfe : f i = f s
      · have hS : (f i == f s) = true := by simp [hfe]
        have HFE : Hid (f i = f s) := hfe
        clear hfe
        go_wp2_with fail
        go_quiet (fail)
        go_wp2_with fail
        have HN2 : Hid (Nums (w2.drewN (q + nq)) w.heap.size 0 n f) := HN.out
        have HB2 : Hid (Below w.heap.size w (w2.drewN (q + nq))) := below_drewN HB.out _
        have HX : Hid (∀ m, aboveB f s m = (m == i || aboveB f i m)) := above_next f s i hsi HFE.out HJ.out
        clear HN HB HJ HFE hS c1 c2
        generalize w2.drewN (q + nq) = w4 at HN2 HB2 ⊢
        refine (search9 _ _ _ _).mono ?_
        rintro e w5 ⟨rfl, cs, hw5, h4⟩
        have HCS : Hid (Comps w5 w4.heap.size w.heap.size n n f) := comps_of HN2.out hw5 h4
        have HB5 : Hid (Below w.heap.size w w5) := by rw [hw5]; exact HB2.out.alloc HB2.out.size _
        generalize w4.heap.size = c at HCS ⊢
        clear hw5 h4 HN2 HB2
        go_wp2_with fail
        go_loopw [9, 10, 11] (fun v9 _ _ wz => ∃ m q : Nat, v9 = .int .i64 m ∧ m ≤ n ∧ wz = w5.drewN q) (fun v9 _ _ _ => n - (intOf v9).toNat)
        case atStart => exact ⟨0, 0, rfl, by omega, rfl⟩
        case round =>
          obtain ⟨m, q5, rfl, hmn, rfl⟩ := hrel
          by_cases hml : m < n
          · have hXm := HX.out m
            by_cases hmi : m = i
            · have e1 : ((m : Int) == (i : Int)) = true := by simp; omega
              have hA : aboveB f s m = true := by rw [hXm, hmi]; simp
              clear hXm hmi
              go_wp2_with fail
              refine (above10 c _ n n f s m hs hml _ (HCS.out.drewN q5)).mono ?_
              rintro e w6 ⟨he6, q6, hw6⟩
              subst hw6
              rw [hA] at he6
              subst he6
              clear hA
              go_wp2_with fail
              go_roundw
              case rel => exact ⟨m + 1, q5 + q6, by go_num, by omega, by simp⟩
              case measure => simp [intOf]; omega
            · have e1 : ((m : Int) == (i : Int)) = false := by simp; omega
              have hA : aboveB f s m = aboveB f i m := by rw [hXm]; simp [hmi]
              clear hXm
              go_wp2_with fail
              refine (above10 c _ n n f s m hs hml _ (HCS.out.drewN q5)).mono ?_
              rintro e w6 ⟨he6, q6, hw6⟩
              subst hw6
              rw [hA] at he6
              subst he6
              clear hA
              go_wp2_with fail
              refine (above10 c _ n n f i m hlt hml _ (HCS.out.drewN _)).mono ?_
              rintro e w7 ⟨he7, q7, hw7⟩
              subst hw7
              subst he7
              generalize aboveB f i m = A
              have eA : (A != A) = false := by simp
              go_wp2_with fail
              go_roundw
              case rel => exact ⟨m + 1, q5 + q6 + q7, by go_num, by omega, by simp⟩
              case measure => simp [intOf]; omega
          · go_wp2_with fail
            go_ret
            exact ⟨rfl, below_drewN HB5.out _⟩
      · have hS : (f i == f s) = false := by simp [hfe]
        have HFE : Hid (¬ f i = f s) := hfe
        clear hfe
        go_wp2_with fail
        go_quiet (fail)
        go_wp2_with fail
        go_roundw
        case rel =>
          refine ⟨i + 1, q + nq, rfl, by go_num, by omega, by omega, fun j h1 h2 => ?_, by simp⟩
          by_cases e : j = i
          · subst e; exact HFE.out
          · exact HJ.out j h1 (by omega)
        case measure => simp [intOf]; omega
    · go_wp2_with fail
      have ein : i = n := by omega
      have HN2 : Hid (Nums (w2.drewN q) w.heap.size 0 n f) := HN.out
      have HB2 : Hid (Below w.heap.size w (w2.drewN q)) := below_drewN HB.out _
      have HX : Hid (∀ m, m < n → aboveB f s m = false) := by rw [ein] at HJ; exact above_none f s n HJ.out
      clear HN HB HJ ein
      generalize w2.drewN q = w4 at HN2 HB2 ⊢
      refine (search9 _ _ _ _).mono ?_
      rintro e w5 ⟨rfl, cs, hw5, h4⟩
      have HCS : Hid (Comps w5 w4.heap.size w.heap.size n n f) := comps_of HN2.out hw5 h4
      have HB5 : Hid (Below w.heap.size w w5) := by rw [hw5]; exact HB2.out.alloc HB2.out.size _
      generalize w4.heap.size = c at HCS ⊢
      clear hw5 h4 HN2 HB2
      go_wp2_with fail
      go_loopw [9, 10, 11] (fun v9 _ _ wz => ∃ m q : Nat, v9 = .int .i64 m ∧ m ≤ n ∧ wz = w5.drewN q) (fun v9 _ _ _ => n - (intOf v9).toNat)
      case atStart => exact ⟨0, 0, rfl, by omega, rfl⟩
      case round =>
        obtain ⟨m, q5, rfl, hmn, rfl⟩ := hrel
        by_cases hml : m < n
        · have hA := HX.out m hml
          go_wp2_with fail
          refine (above10 c _ n n f s m hs hml _ (HCS.out.drewN q5)).mono ?_
          rintro e w6 ⟨he6, q6, hw6⟩
          subst hw6
          rw [hA] at he6
          subst he6
          clear hA
          go_wp2_with fail
          go_roundw
          case rel => exact ⟨m + 1, q5 + q6, by go_num, by omega, by simp⟩
          case measure => simp [intOf]; omega
        · go_wp2_with fail
          go_ret
          exact ⟨rfl, below_drewN HB5.out _⟩

theorem walk4_empty (a : Option Addr) (cap : Nat) (x : Int) (w : World) :
    Calls Try.prog 4 #[.slice a 0 cap, .int .i64 x] w fun e w' => Yes w e w' := by
  go_enter Try.func4, Try.ntmps4
  go_wp2_with fail
  refine (bytes11 _ _ _ _ (by omega) _).mono ?_
  rintro e w' ⟨⟨t, rfl⟩, hw⟩
  subst w'
  cases t
  case false =>
    go_wp2_with fail
    go_ret
    exact ⟨rfl, Below.refl _ _⟩
  by_cases x0 : 0 ≤ x
  · go_wp2_with fail
    go_ret
    exact ⟨rfl, Below.refl _ _⟩
  · go_wp2_with fail
    go_ret
    exact ⟨rfl, Below.refl _ _⟩

end Go.Proofs.Qxb6612538a
