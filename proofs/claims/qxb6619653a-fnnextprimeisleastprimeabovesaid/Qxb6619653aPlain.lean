/-
  The plain mathematics: what is asked of a prime; a prime above 2^40; the wheel's rounds. No Go in sight.
-/
namespace Go.Proofs.Qxb6619653a

/-- n is prime: at least 2, and no d from 2 up to its root divides it. -/
def Pr (n : Nat) : Prop := 2 ≤ n ∧ ∀ d, 2 ≤ d → d * d ≤ n → n % d ≠ 0

/-- No d from 2 on and below f divides n. -/
def NoD (n f : Nat) : Prop := ∀ d, 2 ≤ d → d < f → n % d ≠ 0

theorem NoD.start (n : Nat) : NoD n 2 := fun d h1 h2 => by omega
theorem NoD.step {n f : Nat} (h : NoD n f) (hf : n % f ≠ 0) : NoD n (f + 1) := fun d h1 h2 => by
  by_cases e : d = f
  · subst e; exact hf
  · exact h d h1 (by omega)
theorem NoD.pr {n f : Nat} (h : NoD n f) (h2 : 2 ≤ n) (hf : n < f * f) : Pr n := ⟨h2, fun d h1 hd => h d h1 (by
  by_cases e : d < f
  · exact e
  · have : f * f ≤ d * d := Nat.mul_le_mul (by omega) (by omega)
    omega)⟩
theorem not_pr {n d : Nat} (h1 : 2 ≤ d) (h2 : d * d ≤ n) (h3 : n % d = 0) : ¬ Pr n := fun h => h.2 d h1 h2 h3
/-- A divisor above the root tells one below it. -/
theorem not_pr_big {n a : Nat} (h1 : 2 ≤ a) (h2 : a < n) (h3 : n % a = 0) : ¬ Pr n := by
  by_cases e : a * a ≤ n
  · exact not_pr h1 e h3
  · obtain ⟨b, hb⟩ := Nat.dvd_of_mod_eq_zero h3
    have hb2 : 2 ≤ b := by
      match b, hb with
      | 0, hb => omega
      | 1, hb => omega
      | b + 2, _ => omega
    have hba : b < a := by
      by_cases e2 : b < a
      · exact e2
      · have : a * a ≤ a * b := Nat.mul_le_mul_left a (by omega)
        omega
    have hbb : b * b ≤ n := by rw [hb]; exact Nat.mul_le_mul_right b (by omega)
    refine not_pr hb2 hbb ?_
    rw [hb]; exact Nat.mul_mod_left a b

theorem mod_mul_ne {n a b : Nat} (h : n % a ≠ 0) : n % (a * b) ≠ 0 := by
  intro e
  apply h
  obtain ⟨c, hc⟩ := Nat.dvd_of_mod_eq_zero e
  rw [hc, Nat.mul_assoc]; exact Nat.mul_mod_right a _

/-- One round of the wheel. -/
theorem wheel {n i : Nat} (h2 : n % 2 ≠ 0) (h3 : n % 3 ≠ 0) (h : NoD n (5 + 6 * i)) (ha : n % (5 + 6 * i) ≠ 0) (hb : n % (5 + 6 * i + 2) ≠ 0) : NoD n (5 + 6 * (i + 1)) := by
  have h1 := h.step ha
  have e2 : n % (5 + 6 * i + 1) ≠ 0 := by
    have := mod_mul_ne (b := 3 + 3 * i) h2
    rwa [show 2 * (3 + 3 * i) = 5 + 6 * i + 1 from by omega] at this
  have e4 : n % (5 + 6 * i + 3) ≠ 0 := by
    have := mod_mul_ne (b := 4 + 3 * i) h2
    rwa [show 2 * (4 + 3 * i) = 5 + 6 * i + 3 from by omega] at this
  have e5 : n % (5 + 6 * i + 4) ≠ 0 := by
    have := mod_mul_ne (b := 3 + 2 * i) h3
    rwa [show 3 * (3 + 2 * i) = 5 + 6 * i + 4 from by omega] at this
  have e6 : n % (5 + 6 * i + 5) ≠ 0 := by
    have := mod_mul_ne (b := 5 + 3 * i) h2
    rwa [show 2 * (5 + 3 * i) = 5 + 6 * i + 5 from by omega] at this
  exact ((((h1.step e2).step hb).step e4).step e5).step e6

theorem wheel_start {n : Nat} (h2 : n % 2 ≠ 0) (h3 : n % 3 ≠ 0) : NoD n (5 + 6 * 0) := by
  have e4 : n % 4 ≠ 0 := mod_mul_ne (b := 2) h2
  exact (((NoD.start n).step h2).step h3).step e4

/-! A prime above 2^40, by trial of every 6k - 1, 6k + 1 up to its root. -/
def chk (n : Nat) : Nat → Nat → Bool
  | 0, i => Nat.blt 0 (Nat.mod n (Nat.add 5 (Nat.mul 6 i))) && Nat.blt 0 (Nat.mod n (Nat.add 7 (Nat.mul 6 i)))
  | k + 1, i => chk n k i && chk n k (Nat.add i (Nat.pow 2 k))

theorem chk_wheel {n : Nat} (h2 : n % 2 ≠ 0) (h3 : n % 3 ≠ 0) : ∀ (k i : Nat), chk n k i = true → NoD n (5 + 6 * i) → NoD n (5 + 6 * (i + 2 ^ k)) := by
  intro k
  induction k with
  | zero =>
    intro i hc h
    simp only [chk, Bool.and_eq_true] at hc
    have ha : n % (5 + 6 * i) ≠ 0 := by
      have := Nat.le_of_ble_eq_true hc.1
      exact Nat.ne_of_gt this
    have hb : n % (7 + 6 * i) ≠ 0 := by
      have := Nat.le_of_ble_eq_true hc.2
      exact Nat.ne_of_gt this
    rw [show 7 + 6 * i = 5 + 6 * i + 2 from by omega] at hb
    exact wheel h2 h3 h ha hb
  | succ k ih =>
    intro i hc h
    simp only [chk, Bool.and_eq_true] at hc
    have h1 := ih i hc.1 h
    have h4 := ih (i + 2 ^ k) hc.2 h1
    rwa [show i + 2 ^ k + 2 ^ k = i + 2 ^ (k + 1) from by rw [Nat.pow_succ]; omega] at h4

end Go.Proofs.Qxb6619653a
