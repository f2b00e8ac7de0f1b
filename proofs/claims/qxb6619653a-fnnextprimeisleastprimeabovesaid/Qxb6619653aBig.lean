/-
  2^40 + 15 is prime: reckoned by the kernel.
-/
import Derived.Test.Qxb6619653aPlain
namespace Go.Proofs.Qxb6619653a

def big : Nat := 1099511627791
set_option maxRecDepth 100000 in
theorem chk_big : chk 1099511627791 18 0 = true := by decide +kernel

theorem pr_big : Pr big := by
  have h2 : big % 2 ≠ 0 := by decide
  have h3 : big % 3 ≠ 0 := by decide
  have h := chk_wheel h2 h3 18 0 chk_big (wheel_start h2 h3)
  exact h.pr (by decide) (by decide)
end Go.Proofs.Qxb6619653a
