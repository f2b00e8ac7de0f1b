/-
  A proof of 'Rows.FnNextPrimeConstantOnGapsAndMonotoneSaid'. The frame was written by the kit's program (proof-skeleton.mjs); the walk is the prover's.
-/
import Derived.Test.Qxb6619653aWalk
import Derived.Deep.QuietTactic
import Derived.BigQuiet
import Derived.WalkKit
import Derived.ProofKit
import Derived.OpenShut
import Derived.ShutString
namespace Go.Proofs.Qxb6619653a.fnNextPrimeConstantOnGapsAndMonotone
open Go.ChangeShapes Go.WideShapes Go.ChangeAt Go.RowKit
open Go.ChangeMaps (open_string shut_string)
set_option linter.unusedVariables false      -- a walk need not use every 'w<i>' (that an integer argument fits its kind)

theorem own : ownKnob Try.prog.godebug = none := by kernel_rfl

/-! ### STEP 1: THE WALK: the Go text returns true. 'Grown w w'': the world has at most new blocks (Derived/RowKit3.lean). Part the cases AHEAD of 'go_enter' where a test parts the walk; take each callee by a contract of your own. -/
/-- The two next primes: the same below the gap's end; else greater. -/
theorem gaps {lo hi r s : Nat} (hr : Least lo r) (hs : Least hi s) (h : lo ≤ hi) : (hi < r → s = r) ∧ (¬ hi < r → r < s) := by
  refine ⟨fun h1 => ?_, fun h1 => by have := hs.1; omega⟩
  by_cases e : s < r
  · exact absurd hs.2.2.1 (hr.2.2.2 s (by have := hs.1; omega) e)
  · by_cases e2 : r < s
    · exact absurd hr.2.2.1 (hs.2.2.2 r h1 e2)
    · omega

set_option maxHeartbeats 400000 in
theorem walk (a0 : Int) (a1 : Int) (w0 : (Lit.int .i64 a0).wf = true) (w1 : (Lit.int .i64 a1).wf = true) (w : World) :
    Calls Try.prog 4 #[.int .i64 a0, .int .i64 a1] w fun e w' => e = .returned (.bool true) ∧ Grown w w' := by
  clear w0 w1
  by_cases h1 : a0 < 1
  · go_enter Try.func4, Try.ntmps4
    go_wp2
    go_ret
    exact ⟨rfl, Grown.refl _⟩
  by_cases h2 : 1099511627776 < a0
  · go_enter Try.func4, Try.ntmps4
    go_wp2
    go_ret
    exact ⟨rfl, Grown.refl _⟩
  by_cases h3 : a1 < 1
  · go_enter Try.func4, Try.ntmps4
    go_wp2
    go_ret
    exact ⟨rfl, Grown.refl _⟩
  by_cases h4 : 1099511627776 < a1
  · go_enter Try.func4, Try.ntmps4
    go_wp2
    go_ret
    exact ⟨rfl, Grown.refl _⟩
  obtain ⟨p, rfl⟩ := Int.eq_ofNat_of_zero_le (show 0 ≤ a0 by omega)
  obtain ⟨q, rfl⟩ := Int.eq_ofNat_of_zero_le (show 0 ≤ a1 by omega)
  by_cases hqp : q < p
  · go_enter Try.func4, Try.ntmps4
    go_wp2_with fail
    refine (zznext_any q (by omega) (by omega) _).mono ?_
    rintro e w' ⟨⟨r, rfl, hr⟩, hw⟩
    obtain rfl := hw.symm
    have hr1 := hr.1
    have hr2 := hr.2.1
    have HR : Hid (Least q r) := hr
    clear hr
    go_wp2_with fail
    refine (zznext_any p (by omega) (by omega) _).mono ?_
    rintro e w' ⟨⟨s, rfl, hs⟩, hw⟩
    obtain rfl := hw.symm
    have hs1 := hs.1
    have hs2 := hs.2.1
    have HS : Hid (Least p s) := hs
    have HG := gaps HR.out hs (by omega)
    clear hs
    have hd : decide (r ≤ q) = false := by simp; omega
    by_cases hgap : p < r
    · obtain rfl := HG.1 hgap
      clear HG
      go_wp2_with fail
      refine (isPrime_any s (by omega) _).mono ?_
      rintro e w' ⟨ht, hw⟩
      obtain rfl := hw.symm
      rcases ht with ⟨_, rfl⟩ | ⟨hn, _⟩
      · go_wp2
        go_ret
        exact ⟨by simp, Grown.refl _⟩
      · exact absurd HR.out.2.2.1 hn
    · have hrs := HG.2 hgap
      clear HG
      have hd2 : decide (p < s) = true := by simp; omega
      have hd3 : decide (r < s) = true := by simp; omega
      go_wp2_with fail
      refine (isPrime_any r (by omega) _).mono ?_
      rintro e w' ⟨ht, hw⟩
      obtain rfl := hw.symm
      rcases ht with ⟨_, rfl⟩ | ⟨hn, _⟩
      · go_wp2_with fail
        refine (isPrime_any s (by omega) _).mono ?_
        rintro e w' ⟨ht, hw⟩
        obtain rfl := hw.symm
        rcases ht with ⟨_, rfl⟩ | ⟨hn, _⟩
        · go_wp2
          go_ret
          exact ⟨by simp, Grown.refl _⟩
        · exact absurd HS.out.2.2.1 hn
      · exact absurd HR.out.2.2.1 hn
  · go_enter Try.func4, Try.ntmps4
    go_wp2_with fail
    refine (zznext_any p (by omega) (by omega) _).mono ?_
    rintro e w' ⟨⟨r, rfl, hr⟩, hw⟩
    obtain rfl := hw.symm
    have hr1 := hr.1
    have hr2 := hr.2.1
    have HR : Hid (Least p r) := hr
    clear hr
    go_wp2_with fail
    refine (zznext_any q (by omega) (by omega) _).mono ?_
    rintro e w' ⟨⟨s, rfl, hs⟩, hw⟩
    obtain rfl := hw.symm
    have hs1 := hs.1
    have hs2 := hs.2.1
    have HS : Hid (Least q s) := hs
    have HG := gaps HR.out hs (by omega)
    clear hs
    have hd : decide (r ≤ p) = false := by simp; omega
    by_cases hgap : q < r
    · obtain rfl := HG.1 hgap
      clear HG
      go_wp2_with fail
      refine (isPrime_any s (by omega) _).mono ?_
      rintro e w' ⟨ht, hw⟩
      obtain rfl := hw.symm
      rcases ht with ⟨_, rfl⟩ | ⟨hn, _⟩
      · go_wp2
        go_ret
        exact ⟨by simp, Grown.refl _⟩
      · exact absurd HR.out.2.2.1 hn
    · have hrs := HG.2 hgap
      clear HG
      have hd2 : decide (q < s) = true := by simp; omega
      have hd3 : decide (r < s) = true := by simp; omega
      go_wp2_with fail
      refine (isPrime_any r (by omega) _).mono ?_
      rintro e w' ⟨ht, hw⟩
      obtain rfl := hw.symm
      rcases ht with ⟨_, rfl⟩ | ⟨hn, _⟩
      · go_wp2_with fail
        refine (isPrime_any s (by omega) _).mono ?_
        rintro e w' ⟨ht, hw⟩
        obtain rfl := hw.symm
        rcases ht with ⟨_, rfl⟩ | ⟨hn, _⟩
        · go_wp2
          go_ret
          exact ⟨by simp, Grown.refl _⟩
        · exact absurd HS.out.2.2.1 hn
      · exact absurd HR.out.2.2.1 hn

/-! ### THE ROW's STEP: WRITTEN OUT: LEAVE IT -/
set_option maxRecDepth 100000 in
theorem lifted (os : Os) (started : os.Started) (H : Type) (enc : TypeId × Value → H) :
    ReturnsInHanded {} Try.checked os 4 .any (Rows.fnNextPrimeConstantOnGapsAndMonotoneSpec.pre6 enc Try.prog Try.f4 Rows.fnNextPrimeConstantOnGapsAndMonotoneRow.domain false) (Rows.fnNextPrimeConstantOnGapsAndMonotoneSpec.post enc Try.prog Try.f4 false true false false) := by
  refine returnsInHanded_of_change (C := Try.checked) own started (by kernel_rfl) Try.func4
    (ChangeSpec.witness6 (enc := enc) (C := Try.checked) false ⟨#[], #[.int .i64 0, .int .i64 0], []⟩ 8 (by kernel_rfl) (by kernel_rfl) (by kernel_rfl) (by kernel_rfl)) ?_
  intro W base args ds gs before hval0 hW hcnd _
  have hval : ∀ (j : Nat) t v, Try.f4.params[j]? = some t → args[j]? = some v → Value.okWide Try.prog W .any base t v := hval0
  have hW' := hW
  obtain ⟨p, q, hA0, hV, rfl, hfz, hnd⟩ := hW
  have hA : DataW.TrodAll enc Try.prog W 0 (fun _ => true) true Try.f4.params.toList args.toList ds p := hA0
  rw [Try.params4] at hA hval
  obtain ⟨v0, vs0, d0, ds0, p0, q0, hargs, rfl, rfl, h0, r0⟩ := trodAll_cons hA
  obtain ⟨v1, vs1, d1, ds1, p1, q1, rfl, rfl, rfl, h1, r1⟩ := trodAll_cons r0
  obtain ⟨rfl, rfl, rfl⟩ := trodAll_nil r1
  obtain rfl : args = #[v0, v1] := by cases args; simp_all
  obtain ⟨rfl, rfl⟩ := trodVars_none hV
  obtain ⟨a0, rfl, rfl, rfl, w0⟩ := open_int Try.underlying2 (hval 0 2 v0 rfl rfl) h0
  obtain ⟨a1, rfl, rfl, rfl, w1⟩ := open_int Try.underlying2 (hval 1 2 v1 rfl rfl) h1
  clear hA0 hval0
  simp only [List.append_nil] at hW'
  refine (walk a0 a1 w0 w1 W).mono fun e W' ⟨he, hg⟩ => ?_
  subst he
  exact ⟨_, rfl, post_of_same (pa := []) (pv := []) hW' (fun _ _ _ => (trodAll_cons_mk (shut_bool Try.underlying4 _) trodAll_mk0)) (fun sp _ => (trodAll_cons_mk (shut_int Try.underlying2 w0) (trodAll_cons_mk (shut_int Try.underlying2 w1) trodAll_mk0))) (fun _ _ => rfl) rfl
    (hg.frame _) hg.2.1 (ok_one (by kernel_rfl) rfl (okWide_bool_mk Try.underlying4 _))⟩

theorem over : Rows.fnNextPrimeConstantOnGapsAndMonotoneRow.holds Try.pinned (OpenSpec.ofChange Rows.fnNextPrimeConstantOnGapsAndMonotoneSpec) :=
  OpenClaim.holds_of_wide 4 Try.f4 rfl rfl rfl rfl rfl rfl rfl ⟨rfl, rfl, rfl, rfl, rfl⟩ rfl rfl rfl rfl rfl (by kernel_rfl) Try.func4 (by kernel_rfl)
    (of_decide_eq_true (by kernel_rfl)) (by unfold Func.isWrapper; first | (rw [if_pos (by decide +kernel)]; kernel_rfl) | (rw [if_neg (by decide +kernel)]; exact ⟨rfl, rfl⟩))
    (fun os started H enc _ => lifted os started H enc)

/-- ████ THE STATEMENT ████ -/
theorem proved : Rows.FnNextPrimeConstantOnGapsAndMonotoneSaid :=
  over
end Go.Proofs.Qxb6619653a.fnNextPrimeConstantOnGapsAndMonotone
