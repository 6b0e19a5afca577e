import Derived.Test.Qxb6612527aRows
import Derived.WalkKit
import Derived.ProofKit
import Derived.OpenShut
import Derived.ShutString
import Derived.WalkLawsBesides
namespace Go.Proofs.Qxb6612527a
open Go.ChangeShapes Go.WideShapes Go.ChangeAt Go.RowKit

/-- The six names. -/
def nameOf : Nat → ByteArray
  | 0 => ⟨#[110, 117, 108, 108]⟩
  | 1 => ⟨#[116, 114, 117, 101, 32, 111, 114, 32, 102, 97, 108, 115, 101]⟩
  | 2 => ⟨#[97, 32, 110, 117, 109, 98, 101, 114]⟩
  | 3 => ⟨#[116, 101, 120, 116]⟩
  | 4 => ⟨#[97, 32, 108, 105, 115, 116]⟩
  | _ => ⟨#[97, 110, 32, 111, 98, 106, 101, 99, 116]⟩

/-- A phrase: not empty, no space at either end, single spaces between, else letters of lower case. -/
structure Phrase (s : ByteArray) : Prop where
  pos : 0 < s.size
  small : s.size ≤ 100
  first : s[0].toNat ≠ 32
  last : (s[s.size - 1]'(by omega)).toNat ≠ 32
  each : ∀ i (h : i < s.size), (s[i].toNat = 32 ∧ 0 < i ∧ (s[i - 1]'(by omega)).toNat ≠ 32) ∨ (97 ≤ s[i].toNat ∧ s[i].toNat ≤ 122)

theorem idx27 (k : Int) (hk : k = 0 ∨ k = 1 ∨ k = 2 ∨ k = 3 ∨ k = 4 ∨ k = 5) (w : World) :
    (Instr.index 27 (.agg #[.string ⟨#[110, 117, 108, 108]⟩, .string ⟨#[116, 114, 117, 101, 32, 111, 114, 32, 102, 97, 108, 115, 101]⟩, .string ⟨#[97, 32, 110, 117, 109, 98, 101, 114]⟩, .string ⟨#[116, 101, 120, 116]⟩, .string ⟨#[97, 32, 108, 105, 115, 116]⟩, .string ⟨#[97, 110, 32, 111, 98, 106, 101, 99, 116]⟩]) (.int .u8 k)).run Try.prog w = .ok (.string (nameOf k.toNat)) w := by
  rcases hk with rfl | rfl | rfl | rfl | rfl | rfl
  · kernel_rfl
  · kernel_rfl
  · kernel_rfl
  · kernel_rfl
  · kernel_rfl
  · kernel_rfl

theorem str6 (k : Int) (h0 : 0 ≤ k) (hk : k ≤ 5) (w : World) :
    Calls Try.prog 6 #[.int .u8 k] w fun e w' => e = .returned (.string (nameOf k.toNat)) ∧ w' = w := by
  have hx := fun w => idx27 k (by omega) w
  go_enter Try.func6, Try.ntmps6
  go_wp2
  go_ret
  exact ⟨rfl, rfl⟩

set_option maxHeartbeats 400000 in
theorem phrase5 (s : ByteArray) (hs : Phrase s) (w : World) :
    Calls Try.prog 5 #[.string s] w fun e w' => e = .returned (.bool true) ∧ w' = w := by
  have h1 := hs.pos
  have h2 := hs.small
  have h3 : ((s.size : Int) == 0) = false := beq_eq_false_iff_ne.2 (by omega)
  have h4 : ((s[0].toNat : Int) == 32) = false := beq_eq_false_iff_ne.2 (by have := hs.first; omega)
  have h5 : (((s[s.size - 1]'(by omega)).toNat : Int) == 32) = false := beq_eq_false_iff_ne.2 (by have := hs.last; omega)
  have HE : Hid (∀ i (h : i < s.size), (s[i].toNat = 32 ∧ 0 < i ∧ (s[i - 1]'(by omega)).toNat ≠ 32) ∨ (97 ≤ s[i].toNat ∧ s[i].toNat ≤ 122)) := hs.each
  clear hs
  go_enter Try.func5, Try.ntmps5
  go_wp2
  go_loop [3, 4] (fun v3 _ => ∃ k : Nat, k ≤ s.size ∧ v3 = .int .i64 k) (fun v3 _ => s.size - (intOf v3).toNat)
  case atStart => exact ⟨0, Nat.zero_le _, rfl⟩
  case round =>
    obtain ⟨k, hk, rfl⟩ := hrel
    by_cases hlt : k < s.size
    · rcases HE.out k hlt with ⟨e1, e2, e3⟩ | ⟨e1, e2⟩
      · have f1 : ((s[k].toNat : Int) == 32) = true := beq_iff_eq.2 (by omega)
        have f2 : (((s[k - 1]'(by omega)).toNat : Int) == 32) = false := beq_eq_false_iff_ne.2 (by omega)
        clear e1 e3
        go_wp2
        go_round
        case rel => exact ⟨k + 1, by omega, by go_num⟩
        case measure => simp [intOf]; omega
      · have f1 : ((s[k].toNat : Int) == 32) = false := beq_eq_false_iff_ne.2 (by omega)
        go_wp2
        go_round
        case rel => exact ⟨k + 1, by omega, by go_num⟩
        case measure => simp [intOf]; omega
    · go_wp2
      go_ret
      exact ⟨rfl, rfl⟩

theorem phrase_nameOf (k : Nat) : Phrase (nameOf k) := by
  unfold nameOf
  split
  all_goals exact ⟨by decide, by decide, by decide, by decide, by decide⟩

end Go.Proofs.Qxb6612527a
