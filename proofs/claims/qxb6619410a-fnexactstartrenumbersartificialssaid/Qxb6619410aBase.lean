/-
  What the walks of this seat share: a slice read by its cells; the two tests of sizes.
-/
import Derived.Test.Qxb6619410aRows
import Derived.WalkKit
import Derived.ProofKit
import Derived.Outline
import Derived.WalkLawsBesides
namespace Go.Proofs.Qxb6619410a
open Go.ChangeShapes Go.WideShapes Go.ChangeAt Go.RowKit

/-- Of the slice that begins at a: its first n cells hold f 0, f 1, ..; they lie in a block below B. -/
def Sl (B : Nat) (w : World) (a : Option Addr) (n : Nat) (f : Nat → Value) : Prop :=
  ∀ i, i < n → ∃ b off, a = some ⟨b, off, none⟩ ∧ b < B ∧ w.cell? ⟨b, off + i, none⟩ = some (f i)

/-- The call returned a bool. -/
def IsBool (e : Ending) : Prop := ∃ b : Bool, e = .returned (.bool b)
theorem IsBool.mk (b : Bool) : IsBool (.returned (.bool b)) := ⟨b, rfl⟩

set_option maxHeartbeats 400000 in
theorem fit_any (t : Int) (h0 : 0 ≤ t) (h1 : t ≤ 1099511627776) (B : Nat) (a : Option Addr) (n c : Nat) (hn : n ≤ maxLen) (RA : Nat → Option Addr) (RL RC : Nat → Nat) (w : World)
    (hS : Sl B w a n (fun i => .slice (RA i) (RL i) (RC i))) :
    Calls Try.prog 6 #[.int .i64 t, .slice a n c] w fun e w' => IsBool e ∧ w' = w := by
  unfold maxLen at hn
  have HS : Hid (Sl B w a n (fun i => .slice (RA i) (RL i) (RC i))) := hS
  clear hS
  go_enter Try.func6, Try.ntmps6
  go_wp2
  all_goals first | (go_ret; exact ⟨IsBool.mk _, rfl⟩) | skip
  go_loop [0, 5] (fun s i => ∃ (k : Nat) (T : Int), k ≤ n ∧ 0 ≤ T ∧ T ≤ 1048576 ∧ s = .int .i64 T ∧ i = .int .i64 k) (fun _ i => n - (intOf i).toNat)
  case atStart => exact ⟨0, _, Nat.zero_le _, by omega, by omega, rfl, rfl⟩
  case round =>
    obtain ⟨k, T, hk, hT0, hT1, rfl, rfl⟩ := hrel
    by_cases hlt : k < n
    · obtain ⟨b, off, rfl, _, hc⟩ := HS.out k hlt
      go_wp2
      all_goals first | (go_ret; exact ⟨IsBool.mk _, rfl⟩) | skip
      all_goals
        go_round
        case rel => exact ⟨k + 1, _, by omega, by omega, by omega, rfl, by go_num⟩
        case measure => simp [intOf]; omega
    · go_wp2
      go_ret
      exact ⟨IsBool.mk _, rfl⟩

set_option maxHeartbeats 800000 in
theorem bytes_any (B : Nat) (a0 a1 a2 a a4 a5 : Option Addr) (n0 c0 n1 c1 n2 c2 n c n4 c4 n5 c5 : Nat) (hn : n ≤ maxLen) (RA : Nat → Option Addr) (RL RC : Nat → Nat) (w : World)
    (hS : Sl B w a n (fun i => .slice (RA i) (RL i) (RC i))) :
    Calls Try.prog 5 #[.slice a0 n0 c0, .slice a1 n1 c1, .slice a2 n2 c2, .slice a n c, .slice a4 n4 c4, .slice a5 n5 c5] w fun e w' => IsBool e ∧ w' = w := by
  unfold maxLen at hn
  have HS : Hid (Sl B w a n (fun i => .slice (RA i) (RL i) (RC i))) := hS
  clear hS
  go_enter Try.func5, Try.ntmps5
  go_wp2
  all_goals first | (go_ret; exact ⟨IsBool.mk _, rfl⟩) | skip
  go_loop [13, 14] (fun s i => ∃ (k : Nat) (T : Int), k ≤ n ∧ 0 ≤ T ∧ T ≤ 1048576 ∧ s = .int .i64 T ∧ i = .int .i64 k) (fun _ i => n - (intOf i).toNat)
  case atStart => exact ⟨0, _, Nat.zero_le _, by omega, by omega, rfl, rfl⟩
  case round =>
    obtain ⟨k, T, hk, hT0, hT1, rfl, rfl⟩ := hrel
    by_cases hlt : k < n
    · obtain ⟨b, off, rfl, _, hc⟩ := HS.out k hlt
      go_wp2
      all_goals first | (go_ret; exact ⟨IsBool.mk _, rfl⟩) | skip
      all_goals
        go_round
        case rel => exact ⟨k + 1, _, by omega, by omega, by omega, rfl, by go_num⟩
        case measure => simp [intOf]; omega
    · go_wp2
      all_goals (go_ret; exact ⟨IsBool.mk _, rfl⟩)
end Go.Proofs.Qxb6619410a
