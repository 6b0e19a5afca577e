import Derived.Test.Qxb6612497aSafe
import Derived.BigRegion
import Derived.Lib.Builder
import Derived.WalkSpells
import Derived.Deep.QuietTactic
import Derived.BigQuiet
namespace Go.Proofs.Qxb6612497a
open Go.ChangeShapes Go.WideShapes Go.ChangeAt Go.RowKit

theorem IsRow.le {α : Type} {enc : α → Value} {w : World} {a : Option Addr} {l c : Nat} {f : Nat → α} (h : IsRow enc w a l c f) : l ≤ 9223372036854775807 := by
  rcases h with h | ⟨_, _, _, h1, h2, _⟩
  · omega
  · unfold maxLen at h2; omega

/-- The answer of the law: true; nothing that was there has turned. -/
def Yes (w : World) (e : Ending) (w' : World) : Prop := e = .returned (.bool true) ∧ Below w.heap.size w w'

/-- The first k properties are made: L their blocks. -/
structure Built (w wr : World) (n k : Nat) (L : List Nat) (s : Nat → ByteArray) (S : Nat → Bool) : Prop where
  len : L.length = k
  own : wr.ownsRow w.heap.size 28 1 (.slice (some ⟨w.heap.size, 0, none⟩) n n) n (L.map ptr ++ List.replicate (n - k) (.pointer none))
  safe : ∀ i, i < k → wr.cell? ⟨L.getD i 0, 2, none⟩ = some (.bool (S i))
  label : ∀ i, i < k → wr.cell? ⟨L.getD i 0, 0, none⟩ = some (.string (s i))
  apart : ∀ p, p ∈ L → w.heap.size < p ∧ p < wr.heap.size
  below : Below w.heap.size w wr

theorem getD_mem {L : List Nat} {i : Nat} (h : i < L.length) : L.getD i 0 ∈ L := by
  simp [List.getD, List.getElem?_eq_getElem h]

theorem Built.start {w w1 : World} {n : Nat} {s : Nat → ByteArray} {S : Nat → Bool} (hown : w1.ownsRow w.heap.size 28 1 (.slice (some ⟨w.heap.size, 0, none⟩) n n) n (madeCells #[Value.pointer none] n).toList) (hgrow : w.grownBy w1 none) : Built w w1 n 0 [] s S := by
  refine ⟨rfl, ?_, fun i hi => absurd hi (Nat.not_lt_zero _), fun i hi => absurd hi (Nat.not_lt_zero _), fun p hp => by simp at hp, (Below.refl _ _).grown hgrow (Nat.le_refl _) (fun k hk => by cases hk)⟩
  rw [toList_madeCells_one] at hown
  simpa using hown

theorem Built.size {w wr : World} {n k : Nat} {L : List Nat} {s : Nat → ByteArray} {S : Nat → Bool} (h : Built w wr n k L s S) : w.heap.size < wr.heap.size := (h.own.lt w.heap.size rfl).2

theorem Built.drew {w wr : World} {n k : Nat} {L : List Nat} {s : Nat → ByteArray} {S : Nat → Bool} (h : Built w wr n k L s S) : Built w wr.drew n k L s S :=
  ⟨h.len, h.own.drew, h.safe, h.label, h.apart, h.below.drew⟩

theorem Built.step {w wr : World} {n k : Nat} {L : List Nat} {s : Nat → ByteArray} {S : Nat → Bool} (h : Built w wr n k L s S) (hk : k < n) :
    Built w ((wr.alloc (.cells #[.string (s k), .nilIface, .bool (S k)] 32)).setCell ⟨w.heap.size, k, none⟩ (ptr wr.heap.size)) n (k + 1) (L ++ [wr.heap.size]) s S := by
  have hsz := h.size
  have hlen := h.len
  obtain ⟨r1, r2⟩ := (h.own.alloc (.cells #[.string (s k), .nilIface, .bool (S k)] 32)).stored k (ptr wr.heap.size)
  have cellOld : ∀ p o, p ≠ w.heap.size → p < wr.heap.size → ((wr.alloc (.cells #[.string (s k), .nilIface, .bool (S k)] 32)).setCell ⟨w.heap.size, k, none⟩ (ptr wr.heap.size)).cell? ⟨p, o, none⟩ = wr.cell? ⟨p, o, none⟩ := by
    intro p o hp hlt
    rw [World.cell?_setCell_other _ _ _ _ (by intro e; injection e; omega), World.cell?_alloc_past _ _ _ hlt]
  have cellNew : ∀ o, ((wr.alloc (.cells #[.string (s k), .nilIface, .bool (S k)] 32)).setCell ⟨w.heap.size, k, none⟩ (ptr wr.heap.size)).cell? ⟨wr.heap.size, o, none⟩ = #[.string (s k), .nilIface, .bool (S k)][o]? := by
    intro o
    rw [World.cell?_setCell_other _ _ _ _ (by intro e; injection e; omega), World.cell?_alloc_at _ _ _ _ rfl]
  have getOld : ∀ i, i < k → (L ++ [wr.heap.size]).getD i 0 = L.getD i 0 := fun i hi => by
    simp [List.getD, List.getElem?_append_left (show i < L.length by omega)]
  have getNew : (L ++ [wr.heap.size]).getD k 0 = wr.heap.size := by
    simp [List.getD, hlen]
  refine ⟨by simp [hlen], ?_, ?_, ?_, ?_, (h.below.alloc (by omega) _).setCell (Nat.le_refl _) _⟩
  · have e : (L.map ptr ++ List.replicate (n - k) (Value.pointer none)).set k (ptr wr.heap.size) = (L ++ [wr.heap.size]).map ptr ++ List.replicate (n - (k + 1)) (.pointer none) := by
      rw [List.set_append_right _ _ (by simp; omega), show n - k = (n - (k + 1)) + 1 by omega, List.replicate_succ]
      simp [hlen]
    rw [e] at r1
    exact r1
  · intro i hi
    by_cases e : i = k
    · subst e; rw [getNew, cellNew]; rfl
    · have hm := getD_mem (L := L) (i := i) (by omega)
      rw [getOld i (by omega), cellOld _ _ (by have := (h.apart _ hm).1; omega) (h.apart _ hm).2]
      exact h.safe i (by omega)
  · intro i hi
    by_cases e : i = k
    · subst e; rw [getNew, cellNew]; rfl
    · have hm := getD_mem (L := L) (i := i) (by omega)
      rw [getOld i (by omega), cellOld _ _ (by have := (h.apart _ hm).1; omega) (h.apart _ hm).2]
      exact h.label i (by omega)
  · intro p hp
    have hs' : ((wr.alloc (.cells #[.string (s k), .nilIface, .bool (S k)] 32)).setCell ⟨w.heap.size, k, none⟩ (ptr wr.heap.size)).heap.size = wr.heap.size + 1 := by simp
    rw [hs']
    rcases List.mem_append.1 hp with hp | hp
    · have := h.apart p hp
      omega
    · simp at hp
      omega

theorem Built.step' {w wr : World} {n k : Nat} {L : List Nat} {s : Nat → ByteArray} {S : Nat → Bool} (h : Built w wr n k L s S) (hk : k < n) :
    Built w ((wr.setCell ⟨w.heap.size, k, none⟩ (.pointer (some ⟨wr.heap.size, 0, none⟩))).alloc (.cells #[.string (s k), .nilIface, .bool (S k)] 32)) n (k + 1) (L ++ [wr.heap.size]) s S := by
  have := h.step hk
  rw [World.setCell_alloc_past _ _ _ _ h.size] at this
  exact this

/-- The flag of the property at block p. -/
def flagAt (w : World) (p : Nat) : Bool := match w.cell? ⟨p, 2, none⟩ with | some (.bool b) => b | _ => false

theorem Built.flags {w wr : World} {n : Nat} {L : List Nat} {s : Nat → ByteArray} {S : Nat → Bool} (h : Built w wr n n L s S) : Props wr L (flagAt wr) ∧ ∀ i, i < n → flagAt wr (L.getD i 0) = S i := by
  have hf : ∀ i, i < n → flagAt wr (L.getD i 0) = S i := fun i hi => by unfold flagAt; rw [h.safe i hi]
  refine ⟨fun p hp => ?_, hf⟩
  obtain ⟨i, hi, rfl⟩ := List.mem_iff_getElem.1 hp
  have e : L[i] = L.getD i 0 := by simp [List.getD, List.getElem?_eq_getElem hi]
  have hi' : i < n := by rw [← h.len]; exact hi
  rw [e, hf i hi']
  exact h.safe i hi'

theorem Built.cells {w wr : World} {n : Nat} {L : List Nat} {s : Nat → ByteArray} {S : Nat → Bool} (h : Built w wr n n L s S) : ∀ i, i < n → wr.cell? ⟨w.heap.size, i, none⟩ = some (ptr (L.getD i 0)) := by
  have ho := h.own
  rw [Nat.sub_self, List.replicate_zero, List.append_nil] at ho
  exact fun i hi => row_cell ho hi

/-- The j-th safety one is the one that the i-th round meets. -/
theorem filter_at (sf : Nat → Bool) (L : List Nat) (i : Nat) (hi : i < L.length) (h : sf (L.getD i 0) = true) : ((L.take i).filter sf).length < (L.filter sf).length ∧ (L.filter sf).getD ((L.take i).filter sf).length 0 = L.getD i 0 := by
  have e : L.filter sf = (L.take i).filter sf ++ L.getD i 0 :: (L.drop (i + 1)).filter sf := by
    have e1 : L = L.take i ++ L.getD i 0 :: L.drop (i + 1) := by
      have := List.take_append_drop i L
      rw [List.drop_eq_getElem_cons hi] at this
      rw [show L.getD i 0 = L[i] by simp [List.getD, List.getElem?_eq_getElem hi]]
      exact this.symm
    have e2 : L.filter sf = (L.take i ++ L.getD i 0 :: L.drop (i + 1)).filter sf := by rw [← e1]
    rw [e2, List.filter_append, List.filter_cons, if_pos h]
  rw [e]
  refine ⟨by simp, ?_⟩
  simp [List.getD]

theorem filter_snoc_len (sf : Nat → Bool) (L : List Nat) (i : Nat) (hi : i < L.length) : ((L.take (i + 1)).filter sf).length = ((L.take i).filter sf).length + if sf (L.getD i 0) = true then 1 else 0 := by
  rw [take_snoc_getD L i hi, List.filter_append, List.length_append, List.filter_cons]
  generalize L.getD i 0 = p
  cases h : sf p <;> simp

theorem info32 : ∃ j, Try.prog.info? 32 = some j := Option.isSome_iff_exists.1 (by kernel_rfl)

set_option maxHeartbeats 1000000 in
theorem walk3 (a0 : Option Addr) (l0 c0 : Nat) (s : Nat → ByteArray) (a1 : Option Addr) (l1 c1 : Nat) (S : Nat → Bool) (w : World)
    (h0 : IsRow Value.string w a0 l0 c0 s) (hs : ∀ i, i < l0 → (s i).size ≤ maxLen) (h1 : IsRow Value.bool w a1 l1 c1 S) :
    Calls Try.prog 3 #[.slice a0 l0 c0, .slice a1 l1 c1] w fun e w' => Yes w e w' := by
  have H0 : Hid (IsRow Value.string w a0 l0 c0 s) := h0
  have H1 : Hid (IsRow Value.bool w a1 l1 c1 S) := h1
  have HS : Hid (∀ i, i < l0 → (s i).size ≤ maxLen) := hs
  have m0 := h0.le
  have m1 := h1.le
  clear h0 h1 hs
  obtain ⟨i0, hi, hz0, hz1, hz2⟩ := info_parts info28
  obtain ⟨i32, hi32⟩ := info32
  go_enter Try.func3, Try.ntmps3
  go_wp2_with fail
  refine (bytes5 _ _ _ s _ _ _ _ H0.out HS.out (by unfold maxLen; omega)).mono ?_
  rintro e w' ⟨⟨b, rfl⟩, hw⟩
  subst w'
  cases b with
  | false =>
    go_wp2_with fail
    go_ret
    exact ⟨rfl, Below.refl _ _⟩
  | true =>
    by_cases ha : l0 ≤ 65536
    case neg =>
      go_wp2_with fail
      go_ret
      exact ⟨rfl, Below.refl _ _⟩
    by_cases hb : l1 ≤ 65536
    case neg =>
      go_wp2_with fail
      go_ret
      exact ⟨rfl, Below.refl _ _⟩
    go_wp2_with fail
    refine (size6 _ _ _ s _ H0.out HS.out).mono ?_
    rintro e w' ⟨⟨T, b, hT, rfl⟩, hw⟩
    subst w'
    cases b with
    | false =>
      go_wp2_with fail
      go_ret
      exact ⟨rfl, Below.refl _ _⟩
    | true =>
      by_cases hc : T + l1 ≤ 1048576
      case neg =>
        go_wp2_with fail
        go_ret
        exact ⟨rfl, Below.refl _ _⟩
      by_cases he : l0 = l1
      case neg =>
        have he' : ((l0 : Int) != (l1 : Int)) = true := by rw [bne_iff_ne]; omega
        go_wp2_with fail
        go_ret
        exact ⟨rfl, Below.refl _ _⟩
      subst he
      go_wp2_with (at_make; refine wpList_make_full _ rfl _ _ 27 rfl w.heap.size 28 i0 (.pointer none) 1 Try.underlying27 hi hz0 hz1 _ _ _ _ l0 rfl rfl rfl rfl (by rw [hz2]; omega) (by unfold maxLen; omega) (Nat.le_refl _) ?_)
      intro w1 hown hgrow
      have hb0 : Hid (Built w w1 l0 0 [] s S) := Built.start hown hgrow
      clear hown hgrow hi hz0 hz1 hz2
      go_wp2_with fail
      go_loopw [8] (fun v8 wr => ∃ (k : Nat) (L : List Nat), v8 = .int .i64 k ∧ k ≤ l0 ∧ Hid (Built w wr l0 k L s S)) (fun v8 _ => l0 - (intOf v8).toNat)
      case atStart => exact ⟨0, [], rfl, by omega, hb0⟩
      case round =>
        obtain ⟨k, L, rfl, hk, HB⟩ := hrel
        by_cases hlt : k < l0
        · rcases H0.out with hz | ⟨b0, o0, rfl, hl0, hm0, hc0⟩
          · omega
          rcases H1.out with hz | ⟨b1, o1, rfl, hl1, hm1, hc1⟩
          · omega
          have ck0 : wr.cell? ⟨b0, o0 + k, none⟩ = some (.string (s k)) := cell_later HB.out.below (hc0 k hlt)
          have ck1 : wr.cell? ⟨b1, o1 + k, none⟩ = some (.bool (S k)) := cell_later HB.out.below (hc1 k hlt)
          have hsz := HB.out.size
          have n0 : b0 < wr.heap.size := World.block_lt_of_cell? _ _ ck0
          have n1 : b1 < wr.heap.size := World.block_lt_of_cell? _ _ ck1
          clear hc0 hc1
          have ckG : ∃ old, wr.cell? ⟨w.heap.size, k, none⟩ = some old := by
            have hl := HB.out.own.1
            rw [HB.out.own.cellAt k (by omega), List.getElem?_eq_getElem (by omega)]
            exact ⟨_, rfl⟩
          obtain ⟨old, ckG⟩ := ckG
          have fkG := HB.out.own.frozenAt k
          have hk0 : (0 : Int) ≤ (k : Int) := by omega
          have hk1 : (k : Int) < (l0 : Int) := by omega
          go_wp2_with fail
          go_region
          go_wp2_with fail
          go_roundw
          case rel => exact ⟨k + 1, L ++ [wr.heap.size], by go_num, by omega, (HB.out.step' hlt).drew⟩
          case measure => simp [intOf]; omega
        · have ek : k = l0 := by omega
          have HB2 : Hid (Built w wr l0 l0 L s S) := by rw [ek] at HB; exact HB
          clear HB ek
          obtain ⟨hpr, hfl⟩ := HB2.out.flags
          generalize hsf : flagAt wr = sf at hpr hfl
          have HF : Hid (∀ i, i < l0 → sf (L.getD i 0) = S i) := hfl
          have HPR : Hid (Props wr L sf) := hpr
          have hsz := HB2.out.size
          clear hsf hfl hpr
          go_wp2_with fail
          have bel0 : Below wr.heap.size wr (wr.alloc (Obj.cells #[Value.slice none 0 0, Value.slice none 0 0, Value.slice none 0 0, Value.slice none 0 0, Value.slice (some { block := w.heap.size, off := 0 }) l0 l0, Value.slice none 0 0, Value.slice none 0 0, Value.slice none 0 0, Value.slice none 0 0] 42)) := (Below.refl _ _).alloc (Nat.le_refl _) _
          refine (safe7 L sf wr.heap.size w.heap.size l0 l0 HB2.out.len ha _ (by simp [go_sem]) (fun i hi => cell_alloc (HB2.out.cells i hi)) (HPR.out.below bel0)).mono ?_
          rintro e w2 ⟨g, cap, rfl, hown, hB⟩
          have hB2 : Below wr.heap.size wr w2 := bel0.trans (hB.mono (by simp))
          have HW : Hid (Below w.heap.size w w2) := HB2.out.below.trans (hB2.mono (by omega))
          have HR : Hid (w2.ownsRow (wr.heap.size + 1) 28 1 (Value.slice (some ⟨g, 0, none⟩) (List.filter sf L).length cap) (List.filter sf L).length ((List.filter sf L).map ptr)) := by have h := hown; simp only [World.size_alloc] at h; exact h
          have HC : Hid (∀ i, i < l0 → w2.cell? ⟨w.heap.size, i, none⟩ = some (ptr (L.getD i 0))) := fun i hi => cell_later hB2 (HB2.out.cells i hi)
          have HLn : Hid (L.length = l0) := HB2.out.len
          clear hB2 hB hown bel0 HPR HB2
          obtain ⟨R, HRe⟩ : ∃ R, Hid (L.filter sf = R) := ⟨_, rfl⟩
          rw [HRe.out] at HR
          rw [HRe.out]
          have hRl : R.length ≤ l0 := by rw [← HRe.out, ← HLn.out]; exact List.length_filter_le _ _
          go_wp2_with fail
          go_loopw [11, 12] (fun v11 v12 wz => ∃ (i j q : Nat), v11 = .int .i64 j ∧ v12 = .int .i64 i ∧ i ≤ l0 ∧ j ≤ i ∧ Hid (((L.take i).filter sf).length = j) ∧ wz = w2.drewN q) (fun _ v12 _ => l0 - (intOf v12).toNat)
          case atStart => exact ⟨0, 0, 0, rfl, rfl, by omega, by omega, rfl, rfl⟩
          case round =>
            obtain ⟨i, j, q, rfl, rfl, hi, hji, HJ, rfl⟩ := hrel
            by_cases hil : i < l0
            · rcases H1.out with hz | ⟨b1, o1, rfl, hl1, hm1, hc1⟩
              · omega
              have ck1 : w2.cell? ⟨b1, o1 + i, none⟩ = some (.bool (S i)) := cell_later HW.out (hc1 i hil)
              have HSi := HF.out i hil
              have hiL : i < L.length := by rw [HLn.out]; exact hil
              have HJ1 := filter_snoc_len sf L i hiL
              rw [HSi, HJ.out] at HJ1
              clear hc1
              cases hSi : S i with
              | false =>
                rw [hSi] at ck1 HJ1
                have HJ2 : Hid (((L.take (i + 1)).filter sf).length = j) := by rw [HJ1]; rfl
                clear HJ1 hSi HSi
                go_wp2_with fail
                go_roundw
                case rel => exact ⟨i + 1, j, q, rfl, by go_num, by omega, by omega, HJ2, rfl⟩
                case measure => simp [intOf]; omega
              | true =>
                rw [hSi] at ck1 HJ1 HSi
                have HJ2 : Hid (((L.take (i + 1)).filter sf).length = j + 1) := by rw [HJ1]; rfl
                obtain ⟨f1, f2⟩ := filter_at sf L i hiL HSi
                rw [HJ.out, HRe.out] at f1 f2
                have cR : w2.cell? ⟨g, j, none⟩ = some (ptr (R.getD j 0)) := row_cell HR.out f1
                have cP := HC.out i hil
                rw [f2] at cR
                clear HJ1 hSi HSi f2
                generalize L.getD i 0 = p at cR cP
                unfold ptr at cR cP
                have d1 : decide ((R.length : Int) ≤ (j : Int)) = false := by simp; omega
                have j0 : (0 : Int) ≤ (j : Int) := by omega
                have j1 : (j : Int) < (R.length : Int) := by omega
                have i0' : (0 : Int) ≤ (i : Int) := by omega
                have i1 : (i : Int) < (l0 : Int) := by omega
                have npp : ∀ (w : World), (binOp .neq 28 (.pointer (some ⟨p, 0, none⟩)) (.pointer (some ⟨p, 0, none⟩))).run Try.prog w = .ok (.bool false) w := fun w => Lib.run_neq_ptr_same w _ Try.underlying28 hi32
                go_wp2_with fail
                go_quiet (fail)
                go_wp2_with fail
                go_roundw
                case rel => exact ⟨i + 1, j + 1, q + nq, by go_num, by go_num, by omega, by omega, HJ2, by simp⟩
                case measure => simp [intOf]; omega
            · have ei : i = L.length := by rw [HLn.out]; omega
              have ej : R.length = j := by rw [← HJ.out, ei, List.take_length, HRe.out]
              have dj : ((j : Int) == (R.length : Int)) = true := by simp; omega
              go_wp2_with fail
              go_ret
              exact ⟨rfl, below_drewN HW.out q⟩

end Go.Proofs.Qxb6612497a
