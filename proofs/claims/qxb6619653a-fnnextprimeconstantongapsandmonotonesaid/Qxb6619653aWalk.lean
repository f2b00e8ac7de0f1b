/-
  The contracts of zzIsPrime, nextPrime, ZZnextPrime.
-/
import Derived.Test.Qxb6619653aRows
import Derived.Test.Qxb6619653aBig
import Derived.WalkKit
import Derived.ProofKit
import Derived.Outline
namespace Go.Proofs.Qxb6619653a
open Go.ChangeShapes Go.WideShapes Go.ChangeAt Go.RowKit

/-- The wheel's state: f is 5, 11, 17, ..; nothing below it divides n. -/
def FInv (n f : Nat) : Prop := (∃ i, f = 5 + 6 * i) ∧ 5 ≤ f ∧ f ≤ 2097158 ∧ NoD n f
theorem FInv.start {n : Nat} (h2 : n % 2 ≠ 0) (h3 : n % 3 ≠ 0) : FInv n 5 := ⟨⟨0, rfl⟩, by omega, by omega, wheel_start h2 h3⟩
theorem FInv.sq {n f : Nat} (h : FInv n f) : (f : Int) * f ≤ 4398071676964 := by
  have : f * f ≤ 2097158 * 2097158 := Nat.mul_le_mul h.2.2.1 h.2.2.1
  have e : ((f * f : Nat) : Int) = (f : Int) * f := Int.natCast_mul f f
  omega
theorem sq_nat {n f : Nat} (h : (f : Int) * f ≤ n) : f * f ≤ n := by
  have e : ((f * f : Nat) : Int) = (f : Int) * f := Int.natCast_mul f f
  omega
theorem mod_nat {n f : Nat} (h : (n : Int) % f = 0) : n % f = 0 := by
  have e : ((n % f : Nat) : Int) = (n : Int) % f := Int.natCast_emod n f
  omega
theorem mod_nat' {n f : Nat} (h : ¬ (n : Int) % f = 0) : n % f ≠ 0 := by
  have e : ((n % f : Nat) : Int) = (n : Int) % f := Int.natCast_emod n f
  omega
theorem FInv.le {n f : Nat} (h : FInv n f) (hle : (f : Int) * f ≤ n) : f ≤ n := by
  have := sq_nat hle
  have : f * 1 ≤ f * f := Nat.mul_le_mul_left f (by have := h.2.1; omega)
  omega
theorem FInv.no1 {n f : Nat} (h : FInv n f) (hle : (f : Int) * f ≤ n) (hm : (n : Int) % f = 0) : ¬ Pr n := not_pr (by have := h.2.1; omega) (sq_nat hle) (mod_nat hm)
theorem FInv.no2 {n f : Nat} (h : FInv n f) (hle : (f : Int) * f ≤ n) (hm : (n : Int) % (f + 2) = 0) : ¬ Pr n := by
  have h1 := sq_nat hle
  have h2 : 5 * f ≤ f * f := Nat.mul_le_mul_right f h.2.1
  have h3 := h.2.1
  refine not_pr_big (a := f + 2) (by omega) (by omega) (mod_nat (f := f + 2) ?_)
  simpa using hm
theorem FInv.next {n f : Nat} (h2 : n % 2 ≠ 0) (h3 : n % 3 ≠ 0) (h : FInv n f) (hle : (f : Int) * f ≤ n) (hm : ¬ (n : Int) % f = 0) (hm2 : ¬ (n : Int) % (f + 2) = 0) (hn : n ≤ 2199023255552) : FInv n (f + 6) := by
  obtain ⟨⟨i, rfl⟩, h5, _, hd⟩ := h
  refine ⟨⟨i + 1, by omega⟩, by omega, ?_, ?_⟩
  · have h1 := sq_nat hle
    by_cases e : 5 + 6 * i ≤ 2097152
    · omega
    · have : 2097153 * 2097153 ≤ (5 + 6 * i) * (5 + 6 * i) := Nat.mul_le_mul (by omega) (by omega)
      omega
  · exact wheel h2 h3 hd (mod_nat' hm) (mod_nat' (f := 5 + 6 * i + 2) (by simpa using hm2))
theorem FInv.yes {n f : Nat} (h : FInv n f) (h2 : 2 ≤ n) (hle : ¬ (f : Int) * f ≤ n) : Pr n := by
  refine h.2.2.2.pr h2 ?_
  have e : ((f * f : Nat) : Int) = (f : Int) * f := Int.natCast_mul f f
  omega

/-- The call says whether n is prime. -/
def Tells (n : Nat) (e : Ending) : Prop := (Pr n ∧ e = .returned (.bool true)) ∨ (¬ Pr n ∧ e = .returned (.bool false))

set_option maxHeartbeats 400000 in
theorem isPrime_any (n : Nat) (hn : n ≤ 2199023255552) (w : World) :
    Calls Try.prog 6 #[.int .i64 (n : Int)] w fun e w' => Tells n e ∧ w' = w := by
  by_cases h2 : n < 2
  · have HE : ¬ Pr n := fun h => by have := h.1; omega
    go_enter Try.func6, Try.ntmps6
    go_wp2
    go_ret
    exact ⟨.inr ⟨HE, rfl⟩, rfl⟩
  by_cases h4 : n < 4
  · have HE : Hid (Pr n) := ⟨by omega, fun d h1 h3 => by
      have : 2 * 2 ≤ d * d := Nat.mul_le_mul h1 h1
      omega⟩
    go_enter Try.func6, Try.ntmps6
    go_wp2
    go_ret
    exact ⟨.inl ⟨HE.out, rfl⟩, rfl⟩
  by_cases m2 : (n : Int) % 2 = 0
  · have HE : ¬ Pr n := not_pr (d := 2) (by omega) (by omega) (by omega)
    have hb : ((n : Int) % 2 == 0) = true := by simpa using m2
    go_enter Try.func6, Try.ntmps6
    go_wp2
    go_ret
    exact ⟨.inr ⟨HE, rfl⟩, rfl⟩
  have hb2 : ((n : Int) % 2 == 0) = false := by simpa using m2
  by_cases m3 : (n : Int) % 3 = 0
  · have HE : ¬ Pr n := not_pr_big (a := 3) (by omega) (by omega) (by omega)
    have hb : ((n : Int) % 3 == 0) = true := by simpa using m3
    go_enter Try.func6, Try.ntmps6
    go_wp2
    go_ret
    exact ⟨.inr ⟨HE, rfl⟩, rfl⟩
  have hb3 : ((n : Int) % 3 == 0) = false := by simpa using m3
  have HM : Hid (n % 2 ≠ 0 ∧ n % 3 ≠ 0) := ⟨by omega, by omega⟩
  have HI := FInv.start HM.out.1 HM.out.2
  clear m2 m3
  go_enter Try.func6, Try.ntmps6
  go_wp2
  go_loop [3] (fun v => ∃ f : Nat, v = .int .i64 f ∧ FInv n f) (fun v => n + 7 - (intOf v).toNat)
  case atStart => exact ⟨5, rfl, HI⟩
  case round =>
    obtain ⟨f, rfl, hf⟩ := hrel
    have hf1 := hf.2.2.1
    have hf2 := hf.2.1
    have hff := FInv.sq hf
    have hff0 : (0 : Int) ≤ (f : Int) * f := Int.mul_nonneg (by omega) (by omega)
    by_cases hle : (f : Int) * f ≤ n
    · have hfn := FInv.le hf hle
      by_cases h1 : (n : Int) % f = 0
      · have HE : ¬ Pr n := FInv.no1 hf hle h1
        have hb : ((n : Int) % f == 0) = true := by simpa using h1
        clear hf
        go_wp2
        go_ret
        exact ⟨.inr ⟨HE, rfl⟩, rfl⟩
      have hb1 : ((n : Int) % f == 0) = false := by simpa using h1
      by_cases h3 : (n : Int) % (f + 2) = 0
      · have HE : ¬ Pr n := FInv.no2 hf hle h3
        have hb : ((n : Int) % (f + 2) == 0) = true := by simpa using h3
        clear hf h1
        go_wp2
        go_ret
        exact ⟨.inr ⟨HE, rfl⟩, rfl⟩
      have hb4 : ((n : Int) % (f + 2) == 0) = false := by simpa using h3
      have HN := FInv.next HM.out.1 HM.out.2 hf hle h1 h3 hn
      clear hf h1 h3
      go_wp2
      go_round
      case rel => exact ⟨f + 6, by go_num, HN⟩
      case measure => simp [intOf]; omega
    · have HE : Pr n := FInv.yes hf (by omega) hle
      clear hf
      go_wp2
      go_ret
      exact ⟨.inl ⟨HE, rfl⟩, rfl⟩

/-- r is the least prime above p, and no greater than the prime above 2^40. -/
def Least (p r : Nat) : Prop := p < r ∧ r ≤ 1099511627791 ∧ Pr r ∧ ∀ m, p < m → m < r → ¬ Pr m
def NextE (p : Nat) (e : Ending) : Prop := ∃ r : Nat, e = .returned (.int .i64 (r : Int)) ∧ Least p r

/-- The outer loop's state. -/
def Upto (p n : Nat) : Prop := p < n ∧ n ≤ 1099511627791 ∧ ∀ m, p < m → m < n → ¬ Pr m
theorem Upto.start {p : Nat} (h2 : p ≤ 1099511627776) : Upto p (p + 1) := ⟨by omega, by omega, fun m h1 h2 => by omega⟩
theorem Upto.next {p n : Nat} (h : Upto p n) (hn : ¬ Pr n) : Upto p (n + 1) := by
  refine ⟨by have := h.1; omega, ?_, fun m h1 h2 => ?_⟩
  · have h1 := h.2.1
    have : n ≠ 1099511627791 := fun e => hn (e ▸ pr_big)
    omega
  · by_cases e : m = n
    · subst e; exact hn
    · exact h.2.2 m h1 (by omega)
theorem Upto.found {p n : Nat} (h : Upto p n) (hn : Pr n) : Least p n := ⟨h.1, h.2.1, hn, h.2.2⟩
/-- The inner loop's state. -/
def DInv (n d : Nat) : Prop := 2 ≤ d ∧ d ≤ 1048577 ∧ NoD n d
theorem DInv.start (n : Nat) : DInv n 2 := ⟨by omega, by omega, NoD.start n⟩
theorem DInv.sq {n d : Nat} (h : DInv n d) : (d : Int) * d ≤ 1099513724929 := by
  have : d * d ≤ 1048577 * 1048577 := Nat.mul_le_mul h.2.1 h.2.1
  have e : ((d * d : Nat) : Int) = (d : Int) * d := Int.natCast_mul d d
  omega
theorem DInv.le {n d : Nat} (h : DInv n d) (hle : (d : Int) * d ≤ n) : d ≤ n := by
  have := sq_nat hle
  have : d * 1 ≤ d * d := Nat.mul_le_mul_left d (by have := h.1; omega)
  omega
theorem DInv.no {n d : Nat} (h : DInv n d) (hle : (d : Int) * d ≤ n) (hm : (n : Int) % d = 0) : ¬ Pr n := not_pr h.1 (sq_nat hle) (mod_nat hm)
theorem DInv.next {n d : Nat} (h : DInv n d) (hle : (d : Int) * d ≤ n) (hm : ¬ (n : Int) % d = 0) (hn : n ≤ 1099511627791) : DInv n (d + 1) := by
  refine ⟨by have := h.1; omega, ?_, h.2.2.step (mod_nat' hm)⟩
  have h1 := sq_nat hle
  by_cases e : d ≤ 1048576
  · omega
  · have : 1048577 * 1048577 ≤ d * d := Nat.mul_le_mul (by omega) (by omega)
    omega
theorem DInv.yes {n d : Nat} (h : DInv n d) (h2 : 2 ≤ n) (hle : ¬ (d : Int) * d ≤ n) : Pr n := by
  refine h.2.2.pr h2 ?_
  have e : ((d * d : Nat) : Int) = (d : Int) * d := Int.natCast_mul d d
  omega

set_option maxHeartbeats 400000 in
theorem next_any (p : Nat) (h1 : 1 ≤ p) (h2 : p ≤ 1099511627776) (w : World) :
    Calls Try.prog 7 #[.int .i64 (p : Int)] w fun e w' => NextE p e ∧ w' = w := by
  go_enter Try.func7, Try.ntmps7
  go_wp2
  go_loop [3] (fun v => ∃ n : Nat, v = .int .i64 n ∧ Upto p n) (fun v => 1099511627792 - (intOf v).toNat)
  case atStart => exact ⟨p + 1, by go_num, Upto.start h2⟩
  case round =>
    obtain ⟨n, rfl, hu⟩ := hrel
    have hn1 := hu.1
    have hn2 := hu.2.1
    have HU : Hid (Upto p n) := hu
    clear hu
    go_wp2
    go_loop [4, 5] (fun b v => ∃ d : Nat, b = .bool true ∧ v = .int .i64 d ∧ DInv n d) (fun _ v => n + 2 - (intOf v).toNat)
    case atStart => exact ⟨2, rfl, rfl, DInv.start n⟩
    case round =>
      obtain ⟨d, rfl, rfl, hd⟩ := hrel
      have hd1 := hd.1
      have hd2 := hd.2.1
      have hdd := DInv.sq hd
      have hdd0 : (0 : Int) ≤ (d : Int) * d := Int.mul_nonneg (by omega) (by omega)
      by_cases hle : (d : Int) * d ≤ n
      · have hdn := DInv.le hd hle
        by_cases hm : (n : Int) % d = 0
        · have HE : ¬ Pr n := DInv.no hd hle hm
          have hb : ((n : Int) % d == 0) = true := by simpa using hm
          have HX : Hid (Upto p (n + 1)) := HU.out.next HE
          clear hd HE
          go_wp2
          go_round
          case rel => exact ⟨n + 1, by go_num, HX.out⟩
          case measure => simp [intOf]; omega
        · have HD := DInv.next hd hle hm hn2
          have hb : ((n : Int) % d == 0) = false := by simpa using hm
          clear hd
          go_wp2
          go_round
          case rel => exact ⟨d + 1, rfl, by go_num, HD⟩
          case measure => simp [intOf]; omega
      · have HE : Hid (Least p n) := HU.out.found (DInv.yes hd (by omega) hle)
        clear hd
        go_wp2
        go_ret
        exact ⟨⟨n, rfl, HE.out⟩, rfl⟩

theorem zznext_any (p : Nat) (h1 : 1 ≤ p) (h2 : p ≤ 1099511627776) (w : World) :
    Calls Try.prog 5 #[.int .i64 (p : Int)] w fun e w' => NextE p e ∧ w' = w := by
  go_enter Try.func5, Try.ntmps5
  go_wp2_with fail
  refine (next_any p h1 h2 _).mono ?_
  rintro e w' ⟨⟨r, rfl, hr⟩, hw⟩
  obtain rfl := hw.symm
  have HR : Hid (Least p r) := hr
  clear hr
  go_wp2
  go_ret
  exact ⟨⟨r, rfl, HR.out⟩, rfl⟩
end Go.Proofs.Qxb6619653a
