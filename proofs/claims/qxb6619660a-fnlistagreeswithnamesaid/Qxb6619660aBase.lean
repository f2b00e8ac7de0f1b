/-
  What the walks of this seat share: a slice read by its cells; the tests of sizes; the name of a value.
-/
import Derived.Test.Qxb6619660aRows
import Derived.WalkKit
import Derived.ProofKit
import Derived.Outline
import Derived.WalkLawsBesides
import Derived.WalkSpells
import Derived.WalkSmall
import Derived.Deep.OwnRows
namespace Go.Proofs.Qxb6619660a
open Go.ChangeShapes Go.WideShapes Go.ChangeAt Go.RowKit

/-- Of the slice that begins at a: its first n cells hold f 0, f 1, ..; they lie in a block below B. -/
def Sl (B : Nat) (w : World) (a : Option Addr) (n : Nat) (f : Nat → Value) : Prop :=
  ∀ i, i < n → ∃ b off, a = some ⟨b, off, none⟩ ∧ b < B ∧ w.cell? ⟨b, off + i, none⟩ = some (f i)
theorem Sl.later {B : Nat} {w w' : World} {a : Option Addr} {n : Nat} {f : Nat → Value} (h : Sl B w a n f) (hb : Below B w w') : Sl B w' a n f := by
  intro i hi
  obtain ⟨b, off, ha, hlt, hc⟩ := h i hi
  exact ⟨b, off, ha, hlt, (hb.cell (p := ⟨b, off + i, none⟩) hlt).trans hc⟩
theorem Sl.up {B B' : Nat} {w w' : World} {a : Option Addr} {n : Nat} {f : Nat → Value} (h : Sl B w a n f) (hb : Below B w w') (hB : B ≤ B') : Sl B' w' a n f := by
  intro i hi
  obtain ⟨b, off, ha, hlt, hc⟩ := h i hi
  exact ⟨b, off, ha, by omega, (hb.cell (p := ⟨b, off + i, none⟩) hlt).trans hc⟩
/-- From one world to the next, all its blocks kept. -/
theorem Sl.next {w w' : World} {a : Option Addr} {n : Nat} {f : Nat → Value} (h : Hid (Sl w.heap.size w a n f)) (hb : Hid (Below w.heap.size w w')) : Hid (Sl w'.heap.size w' a n f) := h.out.up hb.out hb.out.size
theorem Sl.congr {B : Nat} {w : World} {a : Option Addr} {n : Nat} {f g : Nat → Value} (h : Sl B w a n f) (e : ∀ i, i < n → f i = g i) : Sl B w a n g := by
  intro i hi
  obtain ⟨b, off, ha, hb, hc⟩ := h i hi
  exact ⟨b, off, ha, hb, by rw [← e i hi]; exact hc⟩

/-- The call returned a bool. -/
def IsBool (e : Ending) : Prop := ∃ b : Bool, e = .returned (.bool b)
theorem IsBool.mk (b : Bool) : IsBool (.returned (.bool b)) := ⟨b, rfl⟩

/-- The lengths of the first k names, added up. -/
def tot (S : Nat → ByteArray) : Nat → Nat
  | 0 => 0
  | k + 1 => tot S k + (S k).size
theorem tot_le (S : Nat → ByteArray) {i n : Nat} (h : i < n) : (S i).size ≤ tot S n := by
  induction n with
  | zero => omega
  | succ n ih =>
    simp only [tot]
    by_cases e : i = n
    · subst e; omega
    · have := ih (by omega); omega

/-- The test of sizes: where it says yes all fits. -/
def Fits (S : Nat → ByteArray) (n : Nat) (e : Ending) : Prop := e = .returned (.bool false) ∨ (e = .returned (.bool true) ∧ tot S n ≤ 1048576)

set_option maxHeartbeats 400000 in
theorem many_any (t : Int) (h0 : 0 ≤ t) (B : Nat) (a : Option Addr) (n c : Nat) (hn : n ≤ maxLen) (S : Nat → ByteArray) (hs : ∀ i, i < n → (S i).size ≤ 1048576) (w : World)
    (hS : Sl B w a n (fun i => .string (S i))) :
    Calls Try.prog 7 #[.slice a n c, .int .i64 t] w fun e w' => IsBool e ∧ w' = w := by
  unfold maxLen at hn
  have HS : Hid (Sl B w a n (fun i => .string (S i))) := hS
  have HZ : Hid (∀ i, i < n → (S i).size ≤ 1048576) := hs
  clear hS hs
  go_enter Try.func7, Try.ntmps7
  go_wp2
  all_goals first | (go_ret; exact ⟨IsBool.mk _, rfl⟩) | skip
  go_loop [5, 13] (fun s i => ∃ (k : Nat) (T : Int), k ≤ n ∧ 0 ≤ T ∧ T ≤ 1048576 ∧ s = .int .i64 T ∧ i = .int .i64 k) (fun _ i => n - (intOf i).toNat)
  case atStart => exact ⟨0, _, Nat.zero_le _, by omega, by omega, rfl, rfl⟩
  case round =>
    obtain ⟨k, T, hk, hT0, hT1, rfl, rfl⟩ := hrel
    by_cases hlt : k < n
    · obtain ⟨b, off, rfl, _, hc⟩ := HS.out k hlt
      have hsz := HZ.out k hlt
      go_wp2
      all_goals first | (go_ret; exact ⟨IsBool.mk _, rfl⟩) | skip
      all_goals
        go_round
        case rel => exact ⟨k + 1, _, by omega, by omega, by omega, rfl, by go_num⟩
        case measure => simp [intOf]; omega
    · go_wp2
      go_ret
      exact ⟨IsBool.mk _, rfl⟩


set_option maxHeartbeats 800000 in
theorem bytes6_any (B : Nat) (s0 s4 : ByteArray) (m : Value) (q : Value) (a : Option Addr) (n c : Nat) (hn : n ≤ maxLen) (S : Nat → ByteArray) (w : World) (hS : Sl B w a n (fun i => .string (S i))) :
    Calls Try.prog 6 #[.string s0, m, .slice a n c, q, .string s4] w fun e w' => Fits S n e ∧ w' = w := by
  unfold maxLen at hn
  have HS : Hid (Sl B w a n (fun i => .string (S i))) := hS
  clear hS
  go_enter Try.func6, Try.ntmps6
  go_wp2
  all_goals first | (go_ret; exact ⟨Or.inl rfl, rfl⟩) | skip
  go_loop [11, 12] (fun s i => ∃ (k : Nat) (T : Int), k ≤ n ∧ 0 ≤ T ∧ T ≤ 1048576 ∧ s = .int .i64 T ∧ i = .int .i64 k ∧ Hid ((tot S k : Int) ≤ T)) (fun _ i => n - (intOf i).toNat)
  case atStart => exact ⟨0, _, Nat.zero_le _, by omega, by omega, rfl, rfl, by simp only [tot]; unfold Hid; omega⟩
  case round =>
    obtain ⟨k, T, hk, hT0, hT1, rfl, rfl, HT⟩ := hrel
    by_cases hlt : k < n
    · obtain ⟨b, off, rfl, _, hc⟩ := HS.out k hlt
      go_wp2
      all_goals first | (go_ret; exact ⟨Or.inl rfl, rfl⟩) | skip
      all_goals
        go_round
        case rel => exact ⟨k + 1, _, by omega, by omega, by omega, rfl, by go_num, by simp only [tot]; have := HT.out; unfold Hid; omega⟩
        case measure => simp [intOf]; omega
    · obtain rfl : k = n := by omega
      go_wp2
      all_goals first | (go_ret; exact ⟨Or.inl rfl, rfl⟩) | (go_ret; exact ⟨Or.inr ⟨rfl, by have := HT.out; omega⟩, rfl⟩)

set_option maxHeartbeats 800000 in
theorem bytes10_any (B : Nat) (s0 s4 : ByteArray) (m : Value) (q : Value) (a : Option Addr) (n c : Nat) (hn : n ≤ maxLen) (S : Nat → ByteArray) (w : World) (hS : Sl B w a n (fun i => .string (S i))) :
    Calls Try.prog 10 #[.string s0, m, .slice a n c, q, .string s4] w fun e w' => Fits S n e ∧ w' = w := by
  unfold maxLen at hn
  have HS : Hid (Sl B w a n (fun i => .string (S i))) := hS
  clear hS
  go_enter Try.func10, Try.ntmps10
  go_wp2
  all_goals first | (go_ret; exact ⟨Or.inl rfl, rfl⟩) | skip
  go_loop [11, 12] (fun s i => ∃ (k : Nat) (T : Int), k ≤ n ∧ 0 ≤ T ∧ T ≤ 1048576 ∧ s = .int .i64 T ∧ i = .int .i64 k ∧ Hid ((tot S k : Int) ≤ T)) (fun _ i => n - (intOf i).toNat)
  case atStart => exact ⟨0, _, Nat.zero_le _, by omega, by omega, rfl, rfl, by simp only [tot]; unfold Hid; omega⟩
  case round =>
    obtain ⟨k, T, hk, hT0, hT1, rfl, rfl, HT⟩ := hrel
    by_cases hlt : k < n
    · obtain ⟨b, off, rfl, _, hc⟩ := HS.out k hlt
      go_wp2
      all_goals first | (go_ret; exact ⟨Or.inl rfl, rfl⟩) | skip
      all_goals
        go_round
        case rel => exact ⟨k + 1, _, by omega, by omega, by omega, rfl, by go_num, by simp only [tot]; have := HT.out; unfold Hid; omega⟩
        case measure => simp [intOf]; omega
    · obtain rfl : k = n := by omega
      go_wp2
      all_goals first | (go_ret; exact ⟨Or.inl rfl, rfl⟩) | (go_ret; exact ⟨Or.inr ⟨rfl, by have := HT.out; omega⟩, rfl⟩)

set_option maxHeartbeats 800000 in
theorem bytes12_any (B : Nat) (s0 : ByteArray) (m : Value) (a : Option Addr) (n c : Nat) (hn : n ≤ maxLen) (S : Nat → ByteArray) (w : World) (hS : Sl B w a n (fun i => .string (S i))) :
    Calls Try.prog 12 #[.string s0, m, .slice a n c] w fun e w' => Fits S n e ∧ w' = w := by
  unfold maxLen at hn
  have HS : Hid (Sl B w a n (fun i => .string (S i))) := hS
  clear hS
  go_enter Try.func12, Try.ntmps12
  go_wp2
  all_goals first | (go_ret; exact ⟨Or.inl rfl, rfl⟩) | skip
  go_loop [7, 8] (fun s i => ∃ (k : Nat) (T : Int), k ≤ n ∧ 0 ≤ T ∧ T ≤ 1048576 ∧ s = .int .i64 T ∧ i = .int .i64 k ∧ Hid ((tot S k : Int) ≤ T)) (fun _ i => n - (intOf i).toNat)
  case atStart => exact ⟨0, _, Nat.zero_le _, by omega, by omega, rfl, rfl, by simp only [tot]; unfold Hid; omega⟩
  case round =>
    obtain ⟨k, T, hk, hT0, hT1, rfl, rfl, HT⟩ := hrel
    by_cases hlt : k < n
    · obtain ⟨b, off, rfl, _, hc⟩ := HS.out k hlt
      go_wp2
      all_goals first | (go_ret; exact ⟨Or.inl rfl, rfl⟩) | skip
      all_goals
        go_round
        case rel => exact ⟨k + 1, _, by omega, by omega, by omega, rfl, by go_num, by simp only [tot]; have := HT.out; unfold Hid; omega⟩
        case measure => simp [intOf]; omega
    · obtain rfl : k = n := by omega
      go_wp2
      all_goals first | (go_ret; exact ⟨Or.inl rfl, rfl⟩) | (go_ret; exact ⟨Or.inr ⟨rfl, by have := HT.out; omega⟩, rfl⟩)
end Go.Proofs.Qxb6619660a
