import Derived.Test.Qxb6612538aHubF
namespace Go.Proofs.Qxb6612538a
open Go.ChangeShapes Go.WideShapes Go.ChangeAt Go.RowKit

/-- Numbers as cells. -/
def ints (l : List Nat) : List Value := l.map fun n : Nat => Value.int .i64 (n : Int)
theorem ints_length (l : List Nat) : (ints l).length = l.length := by simp [ints]
theorem ints_snoc (l : List Nat) (n : Nat) : ints l ++ [.int .i64 (n : Int)] = ints (l ++ [n]) := by simp [ints]

/-- A node beyond the hub that may be taken. -/
def cand (D : ND) (low : Int) (fwd : Bool) (m : Nat) : Bool := decide (low ≤ m) && D.acc m && (if fwd then D.frm m else D.into m)
/-- What the law's own model takes from n, of the first k nodes. -/
def modelL (D : ND) (low : Int) (fwd : Bool) (n k : Nat) : List Nat := (List.range k).filter fun m => cand D low fwd m && jn D fwd n m
def modelK (D : ND) (low : Int) (fwd : Bool) (k : Nat) : Bool := (List.range k).any fun m => cand D low fwd m

theorem modelL_succ (D : ND) (low : Int) (fwd : Bool) (n k : Nat) : modelL D low fwd n (k + 1) = modelL D low fwd n k ++ if (cand D low fwd k && jn D fwd n k) = true then [k] else [] := by
  unfold modelL
  rw [List.range_succ, List.filter_append, List.filter_cons, List.filter_nil]
theorem modelK_succ (D : ND) (low : Int) (fwd : Bool) (k : Nat) : modelK D low fwd (k + 1) = (modelK D low fwd k || cand D low fwd k) := by
  unfold modelK
  rw [List.range_succ, List.any_append]
  simp
theorem modelL_le (D : ND) (low : Int) (fwd : Bool) (n k : Nat) : (modelL D low fwd n k).length ≤ k := by
  unfold modelL
  have := List.length_filter_le (fun m => cand D low fwd m && jn D fwd n m) (List.range k)
  simpa using this

/-- What the model gives: the list in memory of the call's own, and whether any is kept. -/
def ModelPost (w : World) (L : List Nat) (K : Bool) (e : Ending) (w' : World) : Prop :=
  ∃ v, e = .returned (.tuple #[v, .bool K]) ∧ w'.ownsRow w.heap.size 3 1 v L.length (ints L) ∧ Below w.heap.size w w'

section
variable {w : World} {b off P cap : Nat} {D : ND}

set_option maxHeartbeats 2000000 in
theorem model22 (hP : P ≤ 65536) (h : Nodes w b off P D) (ho : ∀ i, i < P → Incr (D.nx i) ∧ (D.nx i).length ≤ 1048576) (n : Nat) (hn : n < P) (low : Int) (fwd : Bool) :
    Calls Try.prog 22 #[.slice (some ⟨b, off, none⟩) P cap, .int .i64 n, .int .i64 low, .bool fwd] w fun e w' => ModelPost w (modelL D low fwd n P) (modelK D low fwd P) e w' := by
  have HN : Hid (Nodes w b off P D) := h
  have HO : Hid (∀ i, i < P → Incr (D.nx i) ∧ (D.nx i).length ≤ 1048576) := ho
  clear h ho
  obtain ⟨i0, hi, hz0, hz1, hz2⟩ := info_parts info3
  go_enter Try.func22, Try.ntmps22
  go_wp2_with fail
  go_loopw [10, 11, 12] (fun v10 v11 v12 wr => ∃ (k l : Nat), k ≤ P ∧ l ≤ k ∧ v12 = .int .i64 k ∧ Hid ((modelL D low fwd n k).length = l) ∧ v11 = .bool (modelK D low fwd k) ∧ Hid (wr.ownsRow w.heap.size 3 1 v10 l (ints (modelL D low fwd n k))) ∧ Hid (Below w.heap.size w wr)) (fun _ _ v12 _ => P - (intOf v12).toNat)
  case atStart => exact ⟨0, 0, by omega, by omega, rfl, rfl, rfl, (show World.ownsRow _ _ _ _ _ _ _ from World.ownsRow_nil _ _ _ _), Below.refl _ _⟩
  case round =>
    obtain ⟨k, l, hk, hl, rfl, HL, rfl, HW, HB⟩ := hrel
    by_cases hlt : k < P
    · have HN1 := (show Hid _ from HN.out.later HB.out)
      have c0 := HN1.out.into k hlt
      have c1 := HN1.out.frm k hlt
      have c2 := HN1.out.acc k hlt
      -- a round that takes nothing and keeps nothing
      by_cases hc : cand D low fwd k = true
      · have hs := modelL_succ D low fwd n k
        have hks := modelK_succ D low fwd k
        rw [hc] at hs hks
        have HKS : Hid (modelK D low fwd (k + 1) = true) := by show _ = _; rw [hks]; simp
        clear hks
        have hlow : ¬ (k : Int) < low := by simp [cand] at hc; omega
        have hacc : D.acc k = true := by simp [cand] at hc; exact hc.1.2
        rw [hacc] at c2
        have hside : (if fwd = true then D.frm k else D.into k) = true := by simp only [cand, Bool.and_eq_true] at hc; exact hc.2
        clear hc hacc
        cases hj : jn D fwd n k with
        | true =>
          rw [hj] at hs
          have HS : Hid (modelL D low fwd n (k + 1) = modelL D low fwd n k ++ [k]) := by show _ = _; simpa using hs
          clear hs
          have hbnd : w.heap.size ≤ wr.heap.size := HB.out.size
          cases fwd with
          | true =>
            have hf : D.frm k = true := by simpa using hside
            rw [hf] at c1
            clear hf hside
            go_wp2_with fail
            refine (joined26 HN1.out HO.out n k hn hlt true).mono ?_
            rintro e w1 ⟨rfl, hw1⟩
            subst w1
            rw [hj]
            clear c0 c1 c2 hj
            go_wp2_with (at_builtin; refine wpList_append_own _ rfl _ _ 22 rfl w.heap.size 3 i0 (.int .i64 0) 1 8 Try.underlying22 hi hz0 hz1 hz2 rfl (by decide) _ l _ rfl (HW.out.alloc _) ⟨wr.heap.size, 0, none⟩ 1 1 [.int .i64 (k : Int)] rfl rfl (cell_one_new _ _ _) (fun u hu => by simp at hu; subst hu; rfl) (by unfold maxLen; omega) (by omega) (by simp; omega) ?_)
            intro v' w1 hown hgrow hnil
            have HW1 : Hid (w1.ownsRow w.heap.size 3 1 v' (l + 1) (ints (modelL D low true n (k + 1)))) := by show World.ownsRow _ _ _ _ _ _ _; rw [HS.out, ← ints_snoc]; exact hown
            have HB1 : Hid (Below w.heap.size w w1) := (HB.out.alloc hbnd _).grown hgrow (by simp; omega) (fun g hg => (HW.out.lt g hg).1)
            clear hown hgrow hnil
            go_wp2_with fail
            go_roundw
            case rel => exact ⟨k + 1, l + 1, by omega, by omega, by go_num, by show _ = _; rw [HS.out, List.length_append, HL.out]; rfl, by rw [HKS.out], HW1.out, HB1.out⟩
            case measure => simp [intOf]; omega
          | false =>
            have hf : D.into k = true := by simpa using hside
            rw [hf] at c0
            clear hf hside
            go_wp2_with fail
            refine (joined26 HN1.out HO.out n k hn hlt false).mono ?_
            rintro e w1 ⟨rfl, hw1⟩
            subst w1
            rw [hj]
            clear c0 c1 c2 hj
            go_wp2_with (at_builtin; refine wpList_append_own _ rfl _ _ 22 rfl w.heap.size 3 i0 (.int .i64 0) 1 8 Try.underlying22 hi hz0 hz1 hz2 rfl (by decide) _ l _ rfl (HW.out.alloc _) ⟨wr.heap.size, 0, none⟩ 1 1 [.int .i64 (k : Int)] rfl rfl (cell_one_new _ _ _) (fun u hu => by simp at hu; subst hu; rfl) (by unfold maxLen; omega) (by omega) (by simp; omega) ?_)
            intro v' w1 hown hgrow hnil
            have HW1 : Hid (w1.ownsRow w.heap.size 3 1 v' (l + 1) (ints (modelL D low false n (k + 1)))) := by show World.ownsRow _ _ _ _ _ _ _; rw [HS.out, ← ints_snoc]; exact hown
            have HB1 : Hid (Below w.heap.size w w1) := (HB.out.alloc hbnd _).grown hgrow (by simp; omega) (fun g hg => (HW.out.lt g hg).1)
            clear hown hgrow hnil
            go_wp2_with fail
            go_roundw
            case rel => exact ⟨k + 1, l + 1, by omega, by omega, by go_num, by show _ = _; rw [HS.out, List.length_append, HL.out]; rfl, by rw [HKS.out], HW1.out, HB1.out⟩
            case measure => simp [intOf]; omega
        | false =>
          rw [hj] at hs
          have HS : Hid (modelL D low fwd n (k + 1) = modelL D low fwd n k) := by show _ = _; simpa using hs
          clear hs
          cases fwd with
          | true =>
            have hf : D.frm k = true := by simpa using hside
            rw [hf] at c1
            clear hf hside
            go_wp2_with fail
            refine (joined26 HN1.out HO.out n k hn hlt true).mono ?_
            rintro e w1 ⟨rfl, hw1⟩
            subst w1
            rw [hj]
            clear c0 c1 c2 hj
            go_wp2_with fail
            go_roundw
            case rel => exact ⟨k + 1, l, by omega, by omega, by go_num, by show _ = _; rw [HS.out]; exact HL.out, by rw [HKS.out], by show World.ownsRow _ _ _ _ _ _ _; rw [HS.out]; exact HW.out, HB.out⟩
            case measure => simp [intOf]; omega
          | false =>
            have hf : D.into k = true := by simpa using hside
            rw [hf] at c0
            clear hf hside
            go_wp2_with fail
            refine (joined26 HN1.out HO.out n k hn hlt false).mono ?_
            rintro e w1 ⟨rfl, hw1⟩
            subst w1
            rw [hj]
            clear c0 c1 c2 hj
            go_wp2_with fail
            go_roundw
            case rel => exact ⟨k + 1, l, by omega, by omega, by go_num, by show _ = _; rw [HS.out]; exact HL.out, by rw [HKS.out], by show World.ownsRow _ _ _ _ _ _ _; rw [HS.out]; exact HW.out, HB.out⟩
            case measure => simp [intOf]; omega
      · have hc' : cand D low fwd k = false := by simpa using hc
        have HS : Hid (modelL D low fwd n (k + 1) = modelL D low fwd n k) := by show _ = _; rw [modelL_succ, hc']; simp
        have HKS : Hid (modelK D low fwd (k + 1) = modelK D low fwd k) := by show _ = _; rw [modelK_succ, hc']; simp
        clear hc'
        cases fwd with
        | true =>
          by_cases hlow : (k : Int) < low
          · clear c0 c1 c2 hc
            go_wp2_with fail
            go_roundw
            case rel => exact ⟨k + 1, l, by omega, by omega, by go_num, by show _ = _; rw [HS.out]; exact HL.out, by rw [HKS.out], by show World.ownsRow _ _ _ _ _ _ _; rw [HS.out]; exact HW.out, HB.out⟩
            case measure => simp [intOf]; omega
          · cases hacc : D.acc k with
            | false =>
              rw [hacc] at c2
              clear c0 c1 hc hacc
              go_wp2_with fail
              go_roundw
              case rel => exact ⟨k + 1, l, by omega, by omega, by go_num, by show _ = _; rw [HS.out]; exact HL.out, by rw [HKS.out], by show World.ownsRow _ _ _ _ _ _ _; rw [HS.out]; exact HW.out, HB.out⟩
              case measure => simp [intOf]; omega
            | true =>
              have hf : D.frm k = false := by
                have hle : low ≤ (k : Int) := by omega
                simpa [cand, hacc, hle] using hc
              rw [hacc] at c2
              rw [hf] at c1
              clear hc hacc hf
              go_wp2_with fail
              go_roundw
              case rel => exact ⟨k + 1, l, by omega, by omega, by go_num, by show _ = _; rw [HS.out]; exact HL.out, by rw [HKS.out], by show World.ownsRow _ _ _ _ _ _ _; rw [HS.out]; exact HW.out, HB.out⟩
              case measure => simp [intOf]; omega
        | false =>
          by_cases hlow : (k : Int) < low
          · clear c0 c1 c2 hc
            go_wp2_with fail
            go_roundw
            case rel => exact ⟨k + 1, l, by omega, by omega, by go_num, by show _ = _; rw [HS.out]; exact HL.out, by rw [HKS.out], by show World.ownsRow _ _ _ _ _ _ _; rw [HS.out]; exact HW.out, HB.out⟩
            case measure => simp [intOf]; omega
          · cases hacc : D.acc k with
            | false =>
              rw [hacc] at c2
              clear c0 c1 hc hacc
              go_wp2_with fail
              go_roundw
              case rel => exact ⟨k + 1, l, by omega, by omega, by go_num, by show _ = _; rw [HS.out]; exact HL.out, by rw [HKS.out], by show World.ownsRow _ _ _ _ _ _ _; rw [HS.out]; exact HW.out, HB.out⟩
              case measure => simp [intOf]; omega
            | true =>
              have hf : D.into k = false := by
                have hle : low ≤ (k : Int) := by omega
                simpa [cand, hacc, hle] using hc
              rw [hacc] at c2
              rw [hf] at c0
              clear hc hacc hf
              go_wp2_with fail
              go_roundw
              case rel => exact ⟨k + 1, l, by omega, by omega, by go_num, by show _ = _; rw [HS.out]; exact HL.out, by rw [HKS.out], by show World.ownsRow _ _ _ _ _ _ _; rw [HS.out]; exact HW.out, HB.out⟩
              case measure => simp [intOf]; omega
    · obtain rfl : k = P := by omega
      have hfin : Hid (ModelPost w (modelL D low fwd n k) (modelK D low fwd k) (.returned (.tuple #[u10, .bool (modelK D low fwd k)])) wr) := ⟨u10, rfl, by rw [HL.out]; exact HW.out, HB.out⟩
      go_wp2_with fail
      go_ret2
      exact hfin.out
end

end Go.Proofs.Qxb6612538a
