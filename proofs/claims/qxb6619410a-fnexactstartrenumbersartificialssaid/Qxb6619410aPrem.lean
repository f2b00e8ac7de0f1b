/-
  The premise: zzExactStartPremise.
-/
import Derived.Test.Qxb6619410aBase
namespace Go.Proofs.Qxb6619410a
open Go.ChangeShapes Go.WideShapes Go.ChangeAt Go.RowKit

/-- The float64 whose bits are x is below 0. -/
def ng (x : Nat) : Bool := FloatKind.f64.format.order x 0 == some .lt
/-- How many of the first k right-hand sides are negative. -/
def cnt (r : Nat → Nat) : Nat → Nat
  | 0 => 0
  | k + 1 => cnt r k + if ng (r k) then 1 else 0
theorem cnt_le (r : Nat → Nat) (k : Nat) : cnt r k ≤ k := by
  induction k with
  | zero => simp [cnt]
  | succ k ih => simp only [cnt]; split <;> omega
theorem cnt_yes (r : Nat → Nat) (k : Nat) (h : (FloatKind.f64.format.order (r k) 0 == some .lt) = true) : cnt r (k + 1) = cnt r k + 1 := by
  have h' : ng (r k) = true := h
  simp only [cnt]; rw [if_pos h']
theorem cnt_no (r : Nat → Nat) (k : Nat) (h : (FloatKind.f64.format.order (r k) 0 == some .lt) = false) : cnt r (k + 1) = cnt r k := by
  have h' : ng (r k) = false := h
  simp only [cnt]; rw [h']; simp

/-- What the premise gives: a mark for each variable; each artificial column names an artificial that is there. -/
def Prem (j : Nat → Int) (r : Nat → Nat) (n0 n1 n m : Nat) : Prop := n ≤ n1 ∧ ∀ i, i < n0 → (n : Int) + m ≤ j i → j i - (n + m) < cnt r m
def PremE (j : Nat → Int) (r : Nat → Nat) (n0 n1 n m : Nat) (e : Ending) : Prop := e = .returned (.bool false) ∨ (e = .returned (.bool true) ∧ Prem j r n0 n1 n m)

set_option maxHeartbeats 400000 in
theorem prem_any (B : Nat) (a0 a1 a2 a3 : Option Addr) (n0 c0 n1 c1 n c m c3 : Nat) (j : Nat → Int) (r : Nat → Nat) (w : World)
    (hn0 : n0 ≤ 1048576) (hn : n ≤ 1048576) (hm : m ≤ 1048576) (hj : ∀ i, i < n0 → -9223372036854775808 ≤ j i ∧ j i ≤ 9223372036854775807)
    (h0 : Sl B w a0 n0 (fun i => .int .i64 (j i))) (h3 : Sl B w a3 m (fun i => .float .f64 (r i))) :
    Calls Try.prog 7 #[.slice a0 n0 c0, .slice a1 n1 c1, .slice a2 n c, .slice a3 m c3] w fun e w' => PremE j r n0 n1 n m e ∧ w' = w := by
  have H0 : Hid (Sl B w a0 n0 (fun i => .int .i64 (j i))) := h0
  have H3 : Hid (Sl B w a3 m (fun i => .float .f64 (r i))) := h3
  have HJ : Hid (∀ i, i < n0 → -9223372036854775808 ≤ j i ∧ j i ≤ 9223372036854775807) := hj
  clear h0 h3 hj
  by_cases h1 : n1 < n
  · go_enter Try.func7, Try.ntmps7
    go_wp2
    go_ret
    exact ⟨Or.inl rfl, rfl⟩
  go_enter Try.func7, Try.ntmps7
  go_wp2
  go_loop [11, 12] (fun s i => ∃ k : Nat, k ≤ m ∧ s = .int .i64 (cnt r k) ∧ i = .int .i64 k) (fun _ i => m - (intOf i).toNat)
  case atStart => exact ⟨0, Nat.zero_le _, rfl, rfl⟩
  case round =>
    obtain ⟨k, hk, rfl, rfl⟩ := hrel
    have hcl := cnt_le r k
    by_cases hlt : k < m
    · obtain ⟨b, off, rfl, _, hc⟩ := H3.out k hlt
      cases hf : (FloatKind.f64.format.order (r k) 0 == some .lt)
      · have HY : Hid (cnt r (k + 1) = cnt r k) := cnt_no r k hf
        go_wp2
        go_round
        case rel => exact ⟨k + 1, by omega, by rw [HY.out], by go_num⟩
        case measure => simp [intOf]; omega
      · have HY : Hid (cnt r (k + 1) = cnt r k + 1) := cnt_yes r k hf
        go_wp2
        go_round
        case rel => exact ⟨k + 1, by omega, by rw [HY.out]; go_num, by go_num⟩
        case measure => simp [intOf]; omega
    · obtain rfl : k = m := by omega
      go_wp2
      go_loop [13, 14] (fun i _ => ∃ q : Nat, q ≤ n0 ∧ i = .int .i64 q ∧ ∀ t, t < q → (n : Int) + k ≤ j t → j t - (n + k) < cnt r k) (fun i _ => n0 - (intOf i).toNat)
      case atStart => exact ⟨0, Nat.zero_le _, rfl, fun t ht => absurd ht (Nat.not_lt_zero _)⟩
      case round =>
        obtain ⟨q, hq, rfl, hall⟩ := hrel
        have HA : Hid (∀ t, t < q → (n : Int) + k ≤ j t → j t - (n + k) < cnt r k) := hall
        clear hall
        by_cases hlt2 : q < n0
        · obtain ⟨b, off, rfl, _, hc⟩ := H0.out q hlt2
          obtain ⟨hj1, hj2⟩ := HJ.out q hlt2
          go_wp2
          all_goals first | (go_ret; exact ⟨Or.inl rfl, rfl⟩) | skip
          all_goals
            go_round
            case rel =>
              refine ⟨q + 1, by omega, by go_num, fun t ht h => ?_⟩
              by_cases e : t = q
              · subst e; omega
              · exact HA.out t (by omega) h
            case measure => simp [intOf]; omega
        · obtain rfl : q = n0 := by omega
          go_wp2
          go_ret
          exact ⟨Or.inr ⟨rfl, by omega, HA.out⟩, rfl⟩
end Go.Proofs.Qxb6619410a
