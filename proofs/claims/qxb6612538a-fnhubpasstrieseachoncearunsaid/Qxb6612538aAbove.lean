import Derived.Test.Qxb6612538aRows
import Derived.WalkKit
import Derived.ProofKit
import Derived.OpenShut
import Derived.ShutString
import Derived.WalkLawsBesides
import Derived.WalkSpells
import Derived.BigRegion
import Derived.Deep.QuietTactic
import Derived.BigQuiet
import Derived.Laws.CopyOwn
namespace Go.Proofs.Qxb6612538a
open Go.ChangeShapes Go.WideShapes Go.ChangeAt Go.RowKit

/-- Node m lies above node s: what 'above' computes over the components f. -/
def aboveB (f : Nat → Int) (s m : Nat) : Bool := decide (s < m) && (f m == f s)

/-- The search's struct at block c, its components in block g. -/
structure Comps (w : World) (c g n cap : Nat) (f : Nat → Int) : Prop where
  field : w.cell? ⟨c, 4, none⟩ = some (.slice (some ⟨g, 0, none⟩) n cap)
  cells : ∀ i, i < n → w.cell? ⟨g, i, none⟩ = some (.int .i64 (f i))

theorem Comps.drewN {w : World} {c g n cap : Nat} {f : Nat → Int} (h : Comps w c g n cap f) (q : Nat) : Comps (w.drewN q) c g n cap f := ⟨h.field, h.cells⟩

/-- A bool comes back; the world has only drawn. -/
def Gives (b : Bool) (w : World) (e : Ending) (w' : World) : Prop := e = .returned (.bool b) ∧ ∃ q, w' = w.drewN q

set_option maxHeartbeats 400000 in
theorem above27 (c g n cap : Nat) (f : Nat → Int) (s m : Nat) (hs : s < n) (hm : m < n) (w : World) (hc : Comps w c g n cap f) :
    Calls Try.prog 27 #[.pointer (some ⟨c, 0, none⟩), .int .i64 s, .int .i64 m] w fun e w' => Gives (aboveB f s m) w e w' := by
  have h1 := hc.field
  have h2 := hc.cells s hs
  have h3 := hc.cells m hm
  clear hc
  have s0 : (0 : Int) ≤ (s : Int) := by omega
  have s1 : (s : Int) < (n : Int) := by omega
  have m0 : (0 : Int) ≤ (m : Int) := by omega
  have m1 : (m : Int) < (n : Int) := by omega
  by_cases hlt : s < m
  · have hd : decide ((s : Int) < (m : Int)) = true := by simp; omega
    have hfin : aboveB f s m = (f m == f s) := by simp [aboveB, hlt]
    have HF := (show Hid _ from hfin)
    clear hfin
    go_enter Try.func27, Try.ntmps27
    go_wp2_with fail
    go_quiet (fail)
    go_wp2_with fail
    go_ret
    refine ⟨?_, nq, rfl⟩
    rw [HF.out]
    rfl
  · have hd : decide ((s : Int) < (m : Int)) = false := by simp; omega
    have hfin : aboveB f s m = false := by simp [aboveB, hlt]
    have HF := (show Hid _ from hfin)
    clear hfin
    go_enter Try.func27, Try.ntmps27
    go_wp2_with fail
    go_quiet (fail)
    go_wp2_with fail
    go_ret
    refine ⟨?_, nq, rfl⟩
    rw [HF.out]
    rfl

theorem above10 (c g n cap : Nat) (f : Nat → Int) (s m : Nat) (hs : s < n) (hm : m < n) (w : World) (hc : Comps w c g n cap f) :
    Calls Try.prog 10 #[.pointer (some ⟨c, 0, none⟩), .int .i64 s, .int .i64 m] w fun e w' => Gives (aboveB f s m) w e w' := by
  have HC : Hid (Comps w c g n cap f) := hc
  clear hc
  go_enter Try.func10, Try.ntmps10
  go_wp2_with fail
  refine (above27 c g n cap f s m hs hm _ HC.out).mono ?_
  rintro e w' ⟨rfl, q, hw⟩
  subst hw
  go_wp2_with fail
  go_ret
  exact ⟨rfl, q, rfl⟩

/-- The struct's zero value is a row of at least five cells. -/
def bigRow (z : Option Value) : Bool := match z with | some (.agg cs) => decide (5 ≤ cs.size) | _ => false
theorem bigRow72 : bigRow ((Try.prog.info? 72).bind (·.zero)) = true := by kernel_rfl
theorem zero72 : ∃ cs : Array Value, 5 ≤ cs.size ∧ ∀ w, (zeroValue 72).run Try.prog w = .ok (.agg cs) w := by
  have h := bigRow72
  cases hi : Try.prog.info? 72 with
  | none => rw [hi] at h; cases h
  | some i =>
    rw [hi] at h
    cases hz : i.zero with
    | none => simp [hz, bigRow] at h
    | some z =>
      simp only [Option.bind_some, hz] at h
      cases z with
      | agg cs => exact ⟨cs, by simpa [bigRow] using h, fun w => by simp [zeroValue, typeInfo, hi, hz]⟩
      | _ => simp [bigRow] at h

theorem search9 (a : Option Addr) (n cap : Nat) (w : World) :
    Calls Try.prog 9 #[.slice a n cap] w fun e w' => e = .returned (.pointer (some ⟨w.heap.size, 0, none⟩)) ∧ ∃ cs : Array Value, w' = w.alloc (.cells cs 72) ∧ cs[4]? = some (.slice a n cap) := by
  obtain ⟨cs, h5, hz⟩ := zero72
  have h5' : ¬ cs.size < 5 := by omega
  go_enter Try.func9, Try.ntmps9
  go_wp2_with fail
  go_ret
  refine ⟨rfl, _, rfl, ?_⟩
  rw [Array.getElem?_setIfInBounds_self_of_lt (by omega)]

/-- Some bool comes back. -/
def SomeBool (e : Ending) : Prop := ∃ b : Bool, e = .returned (.bool b)

/-- The first n cells from ⟨b, off⟩ on hold the numbers of f. -/
def Nums (w : World) (b off n : Nat) (f : Nat → Int) : Prop := ∀ i, i < n → w.cell? ⟨b, off + i, none⟩ = some (.int .i64 (f i))

set_option maxHeartbeats 400000 in
theorem comp8 (b off n cap : Nat) (f : Nat → Int) (hn : n ≤ 1048576) (w : World) (hc : Nums w b off n f) :
    Calls Try.prog 8 #[.slice (some ⟨b, off, none⟩) n cap] w fun e w' => SomeBool e ∧ w' = w := by
  have HC : Hid (Nums w b off n f) := hc
  clear hc
  go_enter Try.func8, Try.ntmps8
  go_wp2_with fail
  go_loop [3] (fun v3 => ∃ k : Nat, k ≤ n ∧ v3 = .int .i64 k) (fun v3 => n - (intOf v3).toNat)
  case atStart => exact ⟨0, Nat.zero_le _, rfl⟩
  case round =>
    obtain ⟨k, hk, rfl⟩ := hrel
    by_cases hlt : k < n
    · have hcell := HC.out k hlt
      generalize f k = z at hcell
      by_cases z0 : z < 0
      · go_wp2_with fail
        go_ret
        exact ⟨⟨_, rfl⟩, rfl⟩
      by_cases z1 : z < n
      · go_wp2_with fail
        go_round
        case rel => exact ⟨k + 1, by omega, by go_num⟩
        case measure => simp [intOf]; omega
      · go_wp2_with fail
        go_ret
        exact ⟨⟨_, rfl⟩, rfl⟩
    · go_wp2_with fail
      go_ret
      exact ⟨⟨_, rfl⟩, rfl⟩

/-- The copy's cells. -/
def cellsOf (n : Nat) (f : Nat → Int) : List Value := (List.range n).map fun i => .int .i64 (f i)

theorem cellsOf_get (n : Nat) (f : Nat → Int) (i : Nat) (h : i < n) : (cellsOf n f)[i]? = some (.int .i64 (f i)) := by
  simp [cellsOf, h]

theorem cellsOf_length (n : Nat) (f : Nat → Int) : (cellsOf n f).length = n := by simp [cellsOf]

theorem cellsOf_one (n : Nat) (f : Nat → Int) : ∀ v ∈ cellsOf n f, v.oneCell' = true := by
  intro v hv
  obtain ⟨_, _, rfl⟩ := List.mem_map.1 hv
  rfl

theorem Nums.src {w : World} {b off n : Nat} {f : Nat → Int} (h : Nums w b off n f) : ∀ j v, (cellsOf n f)[j]? = some v → w.cell? ((⟨b, off, none⟩ : Addr).add j) = some v := by
  intro j v hv
  have hj : j < n := by
    have := (List.getElem?_eq_some_iff.1 hv).1
    simpa [cellsOf] using this
  rw [cellsOf_get n f j hj] at hv
  rw [Addr.add_lit, h j hj]
  exact hv

theorem Nums.below {w w' : World} {b off n : Nat} {f : Nat → Int} (h : Nums w b off n f) (hb : Below w.heap.size w w') : Nums w' b off n f := fun i hi => cell_later hb (h i hi)

theorem Nums.of_row {w : World} {g n : Nat} {f : Nat → Int} {cur : List Value} {t : TypeId} (h : w.heap[g]? = some (.cells (splice cur 0 (cellsOf n f)).toArray t (0, 0))) : Nums w g 0 n f := by
  intro i hi
  rw [cell_of_row w g (0 + i) _ t (0, 0) h]
  simp [splice, List.getElem?_append_left (show i < (cellsOf n f).length by rw [cellsOf_length]; exact hi), cellsOf_get n f i hi]

theorem info3 : (Try.prog.info? 3).map (fun i => (i.zero, i.size, i.bytes)) = some (some (.int .i64 0), 1, 8) := by kernel_rfl

end Go.Proofs.Qxb6612538a
