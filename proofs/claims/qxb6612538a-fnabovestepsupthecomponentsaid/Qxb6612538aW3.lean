import Derived.Test.Qxb6612538aAbove
namespace Go.Proofs.Qxb6612538a
open Go.ChangeShapes Go.WideShapes Go.ChangeAt Go.RowKit

theorem bytes7 (a : Option Addr) (n cap : Nat) (x y : Int) (hn : n ≤ 9223372036854775807) (w : World) :
    Calls Try.prog 7 #[.slice a n cap, .int .i64 x, .int .i64 y] w fun e w' => SomeBool e ∧ w' = w := by
  by_cases h : n ≤ 1048576
  all_goals
    go_enter Try.func7, Try.ntmps7
    go_wp2_with fail
    go_ret
    exact ⟨⟨_, rfl⟩, rfl⟩

theorem size3 : (Try.prog.info? 3).map (·.size) = some 1 := by kernel_rfl

/-- The row that 'make' has laid, known whole. -/
theorem made_row {w1 : World} {base G n : Nat} {xs : List Value} (h : w1.ownsRow base 3 1 (.slice (some ⟨G, 0, none⟩) n n) n xs) : ∃ cur : List Value, w1.heap[G]? = some (.cells cur.toArray 3 (0, 0)) ∧ cur.length = n := by
  rcases h.2 with ⟨h', _⟩ | ⟨g', cap', cur, h', _, hg, _, _, hcs, _⟩
  · simp at h'
  · simp only [Value.slice.injEq, Option.some.injEq, Addr.mk.injEq, and_true, true_and] at h'
    obtain ⟨rfl, rfl⟩ := h'
    exact ⟨cur.toList, by simpa using hg, by simpa using hcs⟩

theorem comps_of {w2 w3 : World} {G n : Nat} {f : Nat → Int} {cs : Array Value} (hN : Nums w2 G 0 n f) (hw : w3 = w2.alloc (.cells cs 72)) (h4 : cs[4]? = some (.slice (some ⟨G, 0, none⟩) n n)) : Comps w3 w2.heap.size G n n f := by
  subst hw
  refine ⟨by rw [World.cell?_alloc_at _ _ _ _ rfl]; exact h4, fun i hi => ?_⟩
  have := cell_later ((Below.refl w2.heap.size w2).alloc (Nat.le_refl _) (.cells cs 72)) (hN i hi)
  rwa [Nat.zero_add] at this

/-- 'copy(zzc, comp)': the run, and what the world behind it holds. -/
theorem copied {w w1 : World} {b off n cap : Nat} {f : Nat → Int} {xs : List Value} (hown : w1.ownsRow w.heap.size 3 1 (.slice (some ⟨w.heap.size, 0, none⟩) n n) n xs) (hgrow : w.grownBy w1 none) (hc : Nums w b off n f) :
    ∃ w2, (∀ ty, (Builtin.copy_ #[22, 22] ty #[.slice (some ⟨w.heap.size, 0, none⟩) n n, .slice (some ⟨b, off, none⟩) n cap]).run Try.prog w1 = .ok (goInt n) w2) ∧ Hid (Nums w2 w.heap.size 0 n f) ∧ Hid (Below w.heap.size w w2) := by
  obtain ⟨cur, hcur, hcl⟩ := made_row hown
  have hB1 : Below w.heap.size w w1 := (Below.refl _ _).grown hgrow (Nat.le_refl _) (fun k hk => by cases hk)
  refine ⟨w1.setRow w.heap.size (splice cur 0 (cellsOf n f)).toArray, fun ty => ?_, ?_, below_setRow hB1 (Nat.le_refl _) _⟩
  · have h := run_copy_row (P := Try.prog) w1 22 22 ty 3 w.heap.size 0 n n ⟨b, off, none⟩ n cap cur.toArray 3 (cellsOf n f) Try.underlying22 size3 hcur (by rw [cellsOf_length]; exact (Nat.min_self n).symm) (hc.below hB1).src (by rw [cellsOf_length]; simp; omega) (cellsOf_one n f)
    rw [cellsOf_length] at h
    rw [h]
    simp [splice, cellsOf_length]
  · exact Nums.of_row (cur := cur) (t := 3) (setRow_heap w1 _ _ _ 3 _ hcur)

/-- THE PLAIN LAW: trichotomy within a component. -/
theorem tri (f : Nat → Int) (s m : Nat) : (aboveB f s m = true ∧ aboveB f m s = false ∧ (f s == f m) = true ∧ s < m) ∨ (aboveB f s m = false ∧ aboveB f m s = true ∧ (f s == f m) = true ∧ m < s) ∨
    (aboveB f s m = false ∧ aboveB f m s = false ∧ (f s == f m) = true ∧ s = m) ∨ (aboveB f s m = false ∧ aboveB f m s = false ∧ (f s == f m) = false ∧ s ≠ m) := by
  by_cases he : f s = f m
  · rcases Nat.lt_trichotomy s m with h | h | h
    · refine .inl ⟨by simp [aboveB, h, he], by simp [aboveB]; omega, by simp [he], h⟩
    · subst h; exact .inr (.inr (.inl ⟨by simp [aboveB], by simp [aboveB], by simp, rfl⟩))
    · refine .inr (.inl ⟨by simp [aboveB]; omega, by simp [aboveB, h, he], by simp [he], h⟩)
  · have he' : ¬ f m = f s := fun h => he h.symm
    exact .inr (.inr (.inr ⟨by simp [aboveB, he'], by simp [aboveB, he], by simp [he], fun h => he (by rw [h])⟩))

/-- The law's answer. -/
def Yes (w : World) (e : Ending) (w' : World) : Prop := e = .returned (.bool true) ∧ Below w.heap.size w w'

set_option maxRecDepth 100000 in
set_option maxHeartbeats 2000000 in
theorem walk3 (b off n cap : Nat) (f : Nat → Int) (x y : Int) (hn : n ≤ 9223372036854775807) (w : World) (hc : Nums w b off n f) :
    Calls Try.prog 3 #[.slice (some ⟨b, off, none⟩) n cap, .int .i64 x, .int .i64 y] w fun e w' => Yes w e w' := by
  have HC : Hid (Nums w b off n f) := hc
  clear hc
  obtain ⟨i0, hi, hz0, hz1, hz2⟩ := info_parts info3
  have q22 : ∀ (w : World) (a : Option Addr) (n c : Nat), (binOp .neq 22 (.slice a n c) (.slice none 0 0)).run Try.prog w = .ok (.bool (!a.isNone)) w := fun w a n c => run_neq_slice_nil_any w _ _ a n c 0 0 Try.underlying22
  go_enter Try.func3, Try.ntmps3
  go_wp2_with fail
  refine (bytes7 _ _ _ _ _ hn _).mono ?_
  rintro e w' ⟨⟨t, rfl⟩, hw⟩
  subst w'
  cases t
  case false =>
    go_wp2_with fail
    go_ret
    exact ⟨rfl, Below.refl _ _⟩
  by_cases hn2 : n ≤ 131072
  case neg =>
    go_wp2_with fail
    go_ret
    exact ⟨rfl, Below.refl _ _⟩
  by_cases x0 : 0 ≤ x
  case neg =>
    go_wp2_with fail
    go_ret
    exact ⟨rfl, Below.refl _ _⟩
  by_cases x1 : x < n
  case neg =>
    go_wp2_with fail
    go_ret
    exact ⟨rfl, Below.refl _ _⟩
  by_cases y0 : 0 ≤ y
  case neg =>
    go_wp2_with fail
    go_ret
    exact ⟨rfl, Below.refl _ _⟩
  by_cases y1 : y < n
  case neg =>
    go_wp2_with fail
    go_ret
    exact ⟨rfl, Below.refl _ _⟩
  obtain ⟨s, rfl⟩ := Int.eq_ofNat_of_zero_le x0
  obtain ⟨m, rfl⟩ := Int.eq_ofNat_of_zero_le y0
  go_wp2_with fail
  refine (comp8 b off n cap f (by omega) _ HC.out).mono ?_
  rintro e w' ⟨⟨t, rfl⟩, hw⟩
  subst w'
  cases t
  case false =>
    go_wp2_with fail
    go_ret
    exact ⟨rfl, Below.refl _ _⟩
  go_wp2_with (at_make; refine wpList_make_full _ rfl _ _ 22 rfl w.heap.size 3 i0 (.int .i64 0) 1 Try.underlying22 hi hz0 hz1 _ _ _ _ n rfl rfl rfl rfl (by rw [hz2]; omega) (by unfold maxLen; omega) (Nat.le_refl _) ?_)
  intro w1 hown hgrow
  obtain ⟨w2, hcp, HN, HB⟩ := copied (cap := cap) hown hgrow HC.out
  clear hown hgrow hi hz0 hz1 hz2 hn
  go_wp2_with fail
  refine (search9 _ _ _ _).mono ?_
  rintro e w3 ⟨rfl, cs, hw3, h4⟩
  have HCS : Hid (Comps w3 w2.heap.size w.heap.size n n f) := comps_of HN.out hw3 h4
  have HB3 : Hid (Below w.heap.size w w3) := by rw [hw3]; exact HB.out.alloc HB.out.size _
  generalize w2.heap.size = c at HCS
  clear hw3 h4 HN HB HC hcp q22
  have hs : s < n := by omega
  have hm : m < n := by omega
  go_wp2_with fail
  refine (above10 c _ n n f s m hs hm _ HCS.out).mono ?_
  rintro e w4 ⟨rfl, q1, hw⟩
  subst hw
  go_wp2_with fail
  refine (above10 c _ n n f m s hm hs _ (HCS.out.drewN q1)).mono ?_
  rintro e w4 ⟨rfl, q2, hw⟩
  subst hw
  have c1 : w3.cell? ⟨w.heap.size, s, none⟩ = some (.int .i64 (f s)) := HCS.out.cells s hs
  have c2 : w3.cell? ⟨w.heap.size, m, none⟩ = some (.int .i64 (f m)) := HCS.out.cells m hm
  clear HCS
  have hcase : (∃ A B S, aboveB f s m = A ∧ aboveB f m s = B ∧ (f s == f m) = S ∧ Hid ((A = true ∧ B = false ∧ S = true ∧ s < m) ∨ (A = false ∧ B = true ∧ S = true ∧ m < s) ∨ (A = false ∧ B = false ∧ S = true ∧ s = m) ∨ (A = false ∧ B = false ∧ S = false ∧ s ≠ m))) := ⟨_, _, _, rfl, rfl, rfl, tri f s m⟩
  obtain ⟨A, B, S, hA, hB, hS, HX⟩ := hcase
  rw [hA, hB]
  clear hA hB
  rcases HX.out with ⟨rfl, rfl, rfl, hlt⟩ | ⟨rfl, rfl, rfl, hlt⟩ | ⟨rfl, rfl, rfl, rfl⟩ | ⟨rfl, rfl, rfl, hne⟩
  · go_wp2_with fail
    go_quiet (fail)
    go_wp2_with fail
    go_ret
    exact ⟨rfl, below_drewN HB3.out _⟩
  · go_wp2_with fail
    go_quiet (fail)
    go_wp2_with fail
    go_ret
    exact ⟨rfl, below_drewN HB3.out _⟩
  · go_wp2_with fail
    go_quiet (fail)
    go_wp2_with fail
    go_ret
    exact ⟨rfl, below_drewN HB3.out _⟩
  · have hne' : ((s : Int) == (m : Int)) = false := beq_eq_false_iff_ne.2 (by omega)
    go_wp2_with fail
    go_quiet (fail)
    go_wp2_with fail
    go_ret
    exact ⟨rfl, below_drewN HB3.out _⟩

theorem walk3_empty (a : Option Addr) (cap : Nat) (x y : Int) (w : World) :
    Calls Try.prog 3 #[.slice a 0 cap, .int .i64 x, .int .i64 y] w fun e w' => Yes w e w' := by
  go_enter Try.func3, Try.ntmps3
  go_wp2_with fail
  refine (bytes7 _ _ _ _ _ (by omega) _).mono ?_
  rintro e w' ⟨⟨t, rfl⟩, hw⟩
  subst w'
  cases t
  case false =>
    go_wp2_with fail
    go_ret
    exact ⟨rfl, Below.refl _ _⟩
  by_cases x0 : 0 ≤ x
  · go_wp2_with fail
    go_ret
    exact ⟨rfl, Below.refl _ _⟩
  · go_wp2_with fail
    go_ret
    exact ⟨rfl, Below.refl _ _⟩

/-- A cell that is there lies at a plain address. -/
theorem plain_at {w : World} {x : Addr} {v : Value} (h : w.cell? (x.add 0) = some v) : ∃ b off, x = ⟨b, off, none⟩ := by
  obtain ⟨b, off, sp⟩ := x
  cases sp with
  | none => exact ⟨b, off, rfl⟩
  | some s =>
    simp [Addr.add, World.cell?] at h
    split at h <;> simp at h

end Go.Proofs.Qxb6612538a
