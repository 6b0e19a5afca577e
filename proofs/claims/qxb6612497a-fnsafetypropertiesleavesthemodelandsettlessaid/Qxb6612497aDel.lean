import Derived.Test.Qxb6612497aKept
namespace Go.Proofs.Qxb6612497a
open Go.ChangeShapes Go.WideShapes Go.ChangeAt Go.RowKit

theorem zero28 (w : World) : (zeroValue 28).run Try.prog w = .ok (.pointer none) w := by kernel_rfl

set_option maxHeartbeats 1000000 in
theorem delete9 (L : List Nat) (sf : Nat → Bool) (base g n cap : Nat) (hn : L.length = n) (hm : n ≤ 65536) (w : World)
    (hown : w.ownsRow base 28 1 (.slice (some ⟨g, 0, none⟩) n cap) n (L.map ptr)) (hp : Props w L sf) (hne : g ∉ L) :
    Calls Try.prog 9 #[.slice (some ⟨g, 0, none⟩) n cap, .func (.func 11) #[] #[]] w fun e w' => Deleted w base L sf g cap e w' := by
  have HP : Hid (Props w L sf) := hp
  have HN : Hid (L.length = n) := hn
  have HO : Hid (w.ownsRow base 28 1 (.slice (some ⟨g, 0, none⟩) n cap) n (L.map ptr)) := hown
  have HC : Hid (∀ i, i < n → w.cell? ⟨g, i, none⟩ = some (ptr (L.getD i 0))) := fun i hi => row_cell hown hi
  have hcapn : n ≤ cap := by
    rcases hown.2 with ⟨h', _⟩ | ⟨g', cap', cur, h', _, _, hnc, _⟩
    · simp at h'
    · simp only [Value.slice.injEq, Option.some.injEq, Addr.mk.injEq, and_true, true_and] at h'
      obtain ⟨rfl, rfl⟩ := h'
      exact hnc
  have hcapm : cap ≤ 9223372036854775807 := by
    rcases hown.2 with ⟨h', _⟩ | ⟨g', cap', cur, h', _, _, hnc, hcm, _⟩
    · simp at h'
    · simp only [Value.slice.injEq, Option.some.injEq, Addr.mk.injEq, and_true, true_and] at h'
      obtain ⟨rfl, rfl⟩ := h'
      unfold maxLen at hcm
      exact hcm
  clear hp hn hown
  go_enter Try.func9, Try.ntmps9
  go_wp2_with fail
  refine (index12 L sf g n cap HN.out (by unfold maxLen; omega) _ HC.out HP.out).mono ?_
  rintro e w' ⟨hf, hw⟩
  subst w'
  rcases hf.cases with ⟨k, he, HK⟩ | ⟨he, HK⟩
  · subst he
    have hk0 : k < n := by have := HK.out.1; rw [HN.out] at this; exact this
    have hkn : ((k : Int) == -1) = false := beq_eq_false_iff_ne.2 (by omega)
    clear hf HC
    go_wp2_with fail
    go_loopw [5, 6, 7] (fun s5 s6 _ wr => ∃ (i j : Nat) (M : List Nat), s5 = .int .i64 i ∧ s6 = .int .i64 j ∧ i < j ∧ j ≤ n ∧ Hid (Kept sf L M i j) ∧ Hid (wr.ownsRow base 28 1 (.slice (some ⟨g, 0, none⟩) n cap) n (M.map ptr)) ∧ Hid (w.grownBy wr (some g)))
      (fun _ s6 _ _ => n - (intOf s6).toNat)
    case atStart => exact ⟨k, k + 1, L, rfl, by go_num, by omega, by omega, Kept.start HK.out.1 HK.out.2.1 HK.out.2.2, HO.out, World.grownBy.refl _ _⟩
    case round =>
      obtain ⟨i, j, M, rfl, rfl, hij, hjn, HI, HR, HG⟩ := hrel
      have hkn' : ((k : Int) == -1) = false := hkn
      by_cases hlt : j < n
      · have hlt' : j < L.length := by rw [HN.out]; exact hlt
        have cj := row_cell HR.out hlt
        rw [HI.out.get] at cj
        have hpj := (HP.out.grown HG.out hne).at hlt'
        obtain ⟨p, HPJ⟩ : ∃ p, Hid (L.getD j 0 = p) := ⟨_, rfl⟩
        rw [HPJ.out] at cj hpj
        unfold ptr at cj
        have ci := row_cell HR.out (show i < n by omega)
        have fi := HR.out.frozenAt i
        obtain ⟨old, hold⟩ : ∃ old, old = ptr (M.getD i 0) := ⟨_, rfl⟩
        rw [← hold] at ci
        clear hold
        obtain ⟨b, HB⟩ : ∃ b, Hid (sf p = b) := ⟨_, rfl⟩
        rw [HB.out] at hpj
        cases b with
        | true =>
          go_wp2_with (go_at_call 11; refine (closure11 _ _ _ hpj).mono ?_; rintro e w' ⟨rfl, rfl⟩)
          go_roundw
          case rel =>
            obtain ⟨r1, r2⟩ := HR.out.stored i (.pointer (some ⟨p, 0, none⟩))
            refine ⟨i + 1, j + 1, M.set i (L.getD j 0), by go_num, by go_num, by omega, by omega, HI.out.keep hlt' (by rw [HPJ.out, HB.out]), ?_, grownBy_trans HG.out r2⟩
            show World.ownsRow _ _ _ _ _ _ _
            rw [List.map_set, HPJ.out]
            exact r1
          case measure => simp [intOf]; omega
        | false =>
          go_wp2_with (go_at_call 11; refine (closure11 _ _ _ hpj).mono ?_; rintro e w' ⟨rfl, rfl⟩)
          go_roundw
          case rel => exact ⟨i, j + 1, M, rfl, by go_num, by omega, by omega, HI.out.skip hlt' (by rw [HPJ.out, HB.out]), HR.out, HG.out⟩
          case measure => simp [intOf]; omega
      · have ejn : j = n := by omega
        have hlen : M.length = n := by rw [HI.out.len, HN.out]
        have hcl : ∀ ty, (Builtin.clear_ #[27] ty #[.slice (some ⟨g, i, none⟩) (n - i) (cap - i)]).run Try.prog wr = .ok (.tuple #[]) (wr.setCells g i (List.replicate (n - i) (.pointer none))) :=
          fun ty => Lib.run_clear_slice wr _ _ ty _ Try.underlying27 zero28 rfl rfl g i _ _ (by omega) (fun t ht => by rw [row_cell HR.out (show i + t < n by omega)]; rfl) (fun t ht => HR.out.frozenAt _)
        have hfin : Hid (Deleted w base L sf g cap (.returned (.slice (some ⟨g, 0, none⟩) i cap)) (wr.setCells g i (List.replicate (n - i) (.pointer none)))) := by
          have hI := HI.out
          rw [ejn, ← HN.out] at hI
          have hd := hI.done
          have hli : (L.filter sf).length = i := by rw [← hd, List.length_take, hlen]; omega
          obtain ⟨r1, r2⟩ := ownsRow_beyond (List.replicate (n - i) (.pointer none)) i wr (ownsRow_shrink HR.out (show i ≤ n by omega)) (Nat.le_refl _)
          refine ⟨by rw [hli], ?_, grownBy_trans HG.out r2⟩
          rw [hli, ← hd, List.map_take]
          exact r1
        clear hlen ejn
        go_wp2_with fail
        go_ret
        exact hfin.out
  · subst he
    clear hf HC
    go_wp2_with fail
    go_ret
    unfold Deleted
    rw [HK.out, HN.out]
    exact ⟨rfl, HO.out, World.grownBy.refl _ _⟩

end Go.Proofs.Qxb6612497a
