import Derived.Test.Qxb6612497aRows
import Derived.WalkKit
import Derived.ProofKit
import Derived.OpenShut
import Derived.ShutString
import Derived.WalkLawsBesides
namespace Go.Proofs.Qxb6612497a
open Go.ChangeShapes Go.WideShapes Go.ChangeAt Go.RowKit

/-- What the walk is told of a slice that came in: it is empty; or each of its first 'len' cells holds 'enc' of its function's value. -/
def IsRow {α : Type} (enc : α → Value) (w : World) (a : Option Addr) (len cap : Nat) (f : Nat → α) : Prop :=
  len = 0 ∨
  ∃ b off, a = some ⟨b, off, none⟩ ∧ len ≤ cap ∧ cap ≤ maxLen ∧ (∀ i, i < len → w.cell? ⟨b, off + i, none⟩ = some (enc (f i)))

/-- Some bool comes back. -/
def SomeBool (e : Ending) : Prop := ∃ b : Bool, e = .returned (.bool b)
/-- Some number within the budget, and some bool. -/
def SomeSize (e : Ending) : Prop := ∃ (T : Nat) (b : Bool), T ≤ 1048576 ∧ e = .returned (.tuple #[.int .i64 T, .bool b])

set_option maxHeartbeats 400000 in
theorem bytes5 (a0 : Option Addr) (l0 c0 : Nat) (s : Nat → ByteArray) (a1 : Option Addr) (l1 c1 : Nat) (w : World)
    (h0 : IsRow Value.string w a0 l0 c0 s) (hs : ∀ i, i < l0 → (s i).size ≤ maxLen) (h1 : l1 ≤ maxLen) :
    Calls Try.prog 5 #[.slice a0 l0 c0, .slice a1 l1 c1] w fun e w' => SomeBool e ∧ w' = w := by
  unfold maxLen at h1 hs
  by_cases hb : l0 ≤ 1048576
  · go_enter Try.func5, Try.ntmps5
    go_wp2
    go_loop [5, 6] (fun n i => ∃ k T : Nat, k ≤ l0 ∧ T ≤ 1048576 ∧ i = .int .i64 k ∧ n = .int .i64 T) (fun _ i => l0 - (intOf i).toNat)
    case atStart => exact ⟨0, l0, Nat.zero_le _, hb, rfl, rfl⟩
    case round =>
      obtain ⟨k, T, hk, hT, rfl, rfl⟩ := hrel
      by_cases hlt : k < l0
      · rcases h0 with hz | ⟨b, off, rfl, hl, hm, hc⟩
        · omega
        · have hcell := hc k hlt
          have hsk := hs k hlt
          clear hc
          go_wp2
          · go_ret
            exact ⟨⟨_, rfl⟩, rfl⟩
          · go_ret
            exact ⟨⟨_, rfl⟩, rfl⟩
          · go_round
            case rel => exact ⟨k + 1, T + (s k).size, by omega, by omega, by go_num, by go_num⟩
            case measure => simp [intOf]; omega
      · go_wp2
        all_goals
          go_ret
          exact ⟨⟨_, rfl⟩, rfl⟩
  · go_enter Try.func5, Try.ntmps5
    go_wp2
    go_ret
    exact ⟨⟨_, rfl⟩, rfl⟩

set_option maxHeartbeats 400000 in
theorem size6 (a0 : Option Addr) (l0 c0 : Nat) (s : Nat → ByteArray) (w : World)
    (h0 : IsRow Value.string w a0 l0 c0 s) (hs : ∀ i, i < l0 → (s i).size ≤ maxLen) :
    Calls Try.prog 6 #[.slice a0 l0 c0] w fun e w' => SomeSize e ∧ w' = w := by
  unfold maxLen at hs
  by_cases hb : l0 ≤ 65536
  · go_enter Try.func6, Try.ntmps6
    go_wp2
    go_loop [4, 5] (fun n i => ∃ k T : Nat, k ≤ l0 ∧ T ≤ 1048576 ∧ i = .int .i64 k ∧ n = .int .i64 T) (fun _ i => l0 - (intOf i).toNat)
    case atStart => exact ⟨0, 16 * l0, Nat.zero_le _, by omega, rfl, by go_num⟩
    case round =>
      obtain ⟨k, T, hk, hT, rfl, rfl⟩ := hrel
      by_cases hlt : k < l0
      · rcases h0 with hz | ⟨b, off, rfl, hl, hm, hc⟩
        · omega
        · have hcell := hc k hlt
          have hsk := hs k hlt
          clear hc
          go_wp2
          · go_ret2
            exact ⟨⟨0, false, by omega, rfl⟩, rfl⟩
          · go_ret2
            exact ⟨⟨0, false, by omega, rfl⟩, rfl⟩
          · go_round
            case rel => exact ⟨k + 1, T + (s k).size, by omega, by omega, by go_num, by go_num⟩
            case measure => simp [intOf]; omega
      · go_wp2
        all_goals
          go_ret2
          exact ⟨⟨T, true, hT, rfl⟩, rfl⟩
  · go_enter Try.func6, Try.ntmps6
    go_wp2
    go_ret2
    exact ⟨⟨0, false, by omega, rfl⟩, rfl⟩

end Go.Proofs.Qxb6612497a
