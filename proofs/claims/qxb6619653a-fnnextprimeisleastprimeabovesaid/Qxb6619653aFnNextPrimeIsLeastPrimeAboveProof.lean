/-
  A proof of 'Rows.FnNextPrimeIsLeastPrimeAboveSaid'. The frame was written by the kit's program (proof-skeleton.mjs); the walk is the prover's.
-/
import Derived.Test.Qxb6619653aWalk
import Derived.WalkKit
import Derived.ProofKit
import Derived.OpenShut
import Derived.ShutString
namespace Go.Proofs.Qxb6619653a.fnNextPrimeIsLeastPrimeAbove
open Go.ChangeShapes Go.WideShapes Go.ChangeAt Go.RowKit
open Go.ChangeMaps (open_string shut_string)
set_option linter.unusedVariables false      -- a walk need not use every 'w<i>' (that an integer argument fits its kind)

theorem own : ownKnob Try.prog.godebug = none := by kernel_rfl

/-! ### STEP 1: THE WALK: the Go text returns true. 'Grown w w'': the world has at most new blocks (Derived/RowKit3.lean). Part the cases AHEAD of 'go_enter' where a test parts the walk; take each callee by a contract of your own. -/
set_option maxHeartbeats 400000 in
theorem walk (a0 : Int) (w0 : (Lit.int .i64 a0).wf = true) (w : World) :
    Calls Try.prog 3 #[.int .i64 a0] w fun e w' => e = .returned (.bool true) ∧ Grown w w' := by
  by_cases h1 : a0 < 1
  · go_enter Try.func3, Try.ntmps3
    go_wp2
    go_ret
    exact ⟨rfl, Grown.refl _⟩
  by_cases h2 : 1099511627776 < a0
  · go_enter Try.func3, Try.ntmps3
    go_wp2
    go_ret
    exact ⟨rfl, Grown.refl _⟩
  obtain ⟨p, rfl⟩ := Int.eq_ofNat_of_zero_le (show 0 ≤ a0 by omega)
  clear w0
  go_enter Try.func3, Try.ntmps3
  go_wp2_with fail
  refine (zznext_any p (by omega) (by omega) _).mono ?_
  rintro e w' ⟨⟨r, rfl, hr⟩, hw⟩
  obtain rfl := hw.symm
  have hr1 := hr.1
  have hr2 := hr.2.1
  have HR : Hid (Least p r) := hr
  clear hr
  have hd : decide (r ≤ p) = false := by simp; omega
  go_wp2
  go_loopw [4] (fun v wr => ∃ m : Nat, v = .int .i64 m ∧ p < m ∧ m ≤ r + 1 ∧ wr = w) (fun v _ => r + 1 - (intOf v).toNat)
  case atStart => exact ⟨p + 1, by go_num, by omega, by omega, rfl⟩
  case round =>
    obtain ⟨m, rfl, hm1, hm2, hwr⟩ := hrel
    obtain rfl := hwr.symm
    by_cases hle : m ≤ r
    · by_cases hlt : m < r
      · have HN : ¬ Pr m := HR.out.2.2.2 m hm1 hlt
        have hb : ((m : Int) == (r : Int)) = false := by simp; omega
        go_wp2_with fail
        refine (isPrime_any m (by omega) _).mono ?_
        rintro e w' ⟨ht, hw⟩
        obtain rfl := hw.symm
        rcases ht with ⟨hy, _⟩ | ⟨_, rfl⟩
        · exact absurd hy HN
        clear HN
        go_wp2
        go_roundw
        case rel => exact ⟨m + 1, by go_num, by omega, by omega, by simp⟩
        case measure => simp [intOf]; omega
      · obtain rfl : m = r := by omega
        have HY : Pr m := HR.out.2.2.1
        go_wp2_with fail
        refine (isPrime_any m (by omega) _).mono ?_
        rintro e w' ⟨ht, hw⟩
        obtain rfl := hw.symm
        rcases ht with ⟨_, rfl⟩ | ⟨hn, _⟩
        · clear HY
          go_wp2
          go_roundw
          case rel => exact ⟨m + 1, by go_num, by omega, by omega, by simp⟩
          case measure => simp [intOf]
        · exact absurd HY hn
    · go_wp2
      go_ret
      exact ⟨rfl, Grown.refl _⟩

/-! ### THE ROW's STEP: WRITTEN OUT: LEAVE IT -/
set_option maxRecDepth 100000 in
theorem lifted (os : Os) (started : os.Started) (H : Type) (enc : TypeId × Value → H) :
    ReturnsInHanded {} Try.checked os 3 .any (Rows.fnNextPrimeIsLeastPrimeAboveSpec.pre6 enc Try.prog Try.f3 Rows.fnNextPrimeIsLeastPrimeAboveRow.domain false) (Rows.fnNextPrimeIsLeastPrimeAboveSpec.post enc Try.prog Try.f3 false true false false) := by
  refine returnsInHanded_of_change (C := Try.checked) own started (by kernel_rfl) Try.func3
    (ChangeSpec.witness6 (enc := enc) (C := Try.checked) false ⟨#[], #[.int .i64 0], []⟩ 8 (by kernel_rfl) (by kernel_rfl) (by kernel_rfl) (by kernel_rfl)) ?_
  intro W base args ds gs before hval0 hW hcnd _
  have hval : ∀ (j : Nat) t v, Try.f3.params[j]? = some t → args[j]? = some v → Value.okWide Try.prog W .any base t v := hval0
  have hW' := hW
  obtain ⟨p, q, hA0, hV, rfl, hfz, hnd⟩ := hW
  have hA : DataW.TrodAll enc Try.prog W 0 (fun _ => true) true Try.f3.params.toList args.toList ds p := hA0
  rw [Try.params3] at hA hval
  obtain ⟨v0, vs0, d0, ds0, p0, q0, hargs, rfl, rfl, h0, r0⟩ := trodAll_cons hA
  obtain ⟨rfl, rfl, rfl⟩ := trodAll_nil r0
  obtain rfl : args = #[v0] := by cases args; simp_all
  obtain ⟨rfl, rfl⟩ := trodVars_none hV
  obtain ⟨a0, rfl, rfl, rfl, w0⟩ := open_int Try.underlying2 (hval 0 2 v0 rfl rfl) h0
  clear hA0 hval0
  simp only [List.append_nil] at hW'
  refine (walk a0 w0 W).mono fun e W' ⟨he, hg⟩ => ?_
  subst he
  exact ⟨_, rfl, post_of_same (pa := []) (pv := []) hW' (fun _ _ _ => (trodAll_cons_mk (shut_bool Try.underlying4 _) trodAll_mk0)) (fun sp _ => (trodAll_cons_mk (shut_int Try.underlying2 w0) trodAll_mk0)) (fun _ _ => rfl) rfl
    (hg.frame _) hg.2.1 (ok_one (by kernel_rfl) rfl (okWide_bool_mk Try.underlying4 _))⟩

theorem over : Rows.fnNextPrimeIsLeastPrimeAboveRow.holds Try.pinned (OpenSpec.ofChange Rows.fnNextPrimeIsLeastPrimeAboveSpec) :=
  OpenClaim.holds_of_wide 3 Try.f3 rfl rfl rfl rfl rfl rfl rfl ⟨rfl, rfl, rfl, rfl, rfl⟩ rfl rfl rfl rfl rfl (by kernel_rfl) Try.func3 (by kernel_rfl)
    (of_decide_eq_true (by kernel_rfl)) (by unfold Func.isWrapper; first | (rw [if_pos (by decide +kernel)]; kernel_rfl) | (rw [if_neg (by decide +kernel)]; exact ⟨rfl, rfl⟩))
    (fun os started H enc _ => lifted os started H enc)

/-- ████ THE STATEMENT ████ -/
theorem proved : Rows.FnNextPrimeIsLeastPrimeAboveSaid :=
  over
end Go.Proofs.Qxb6619653a.fnNextPrimeIsLeastPrimeAbove
