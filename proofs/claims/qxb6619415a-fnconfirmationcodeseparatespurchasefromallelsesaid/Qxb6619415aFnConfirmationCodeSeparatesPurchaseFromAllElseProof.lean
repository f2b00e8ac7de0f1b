/-
  A proof of 'Rows.FnConfirmationCodeSeparatesPurchaseFromAllElseSaid'. The frame was written by the kit's program (proof-skeleton.mjs); the walk and the callees' contracts are the prover's.
-/
import Derived.Test.Qxb6619415aRows
import Derived.WalkKit
import Derived.ProofKit
import Derived.OpenShut
import Derived.ShutString
import Derived.Deep.RegionWith
namespace Go.Proofs.Qxb6619415a.fnConfirmationCodeSeparatesPurchaseFromAllElse
open Go.ChangeShapes Go.WideShapes Go.ChangeAt Go.RowKit
open Go.ChangeMaps (open_string shut_string)
set_option linter.unusedVariables false      -- a walk need not use every 'w<i>' (that an integer argument fits its kind)

theorem own : ownKnob Try.prog.godebug = none := by kernel_rfl

/-! ### STEP 1: THE WALK. -/
theorem bytes_any (a0 : ByteArray) (a1 : ByteArray) (w0 : a0.size ≤ maxLen) (w1 : a1.size ≤ maxLen) (w : World) :
    Calls Try.prog 4 #[.string a0, .string a1] w fun e w' => (∃ b : Bool, e = .returned (.bool b)) ∧ w' = w := by
  unfold maxLen at w0 w1
  go_enter Try.func4, Try.ntmps4
  go_wp2
  all_goals (go_ret; exact ⟨⟨_, rfl⟩, rfl⟩)

theorem code_buy (w : World) :
    Calls Try.prog 5 #[.string ⟨#[48, 50, 50]⟩] w fun e w' => e = .returned (.string ⟨#[49, 50, 50]⟩) ∧ w' = w := by
  go_enter Try.func5, Try.ntmps5
  go_wp2
  go_ret
  exact ⟨rfl, rfl⟩

theorem code_else (a : ByteArray) (h : (a.toList == [48, 50, 50]) = false) (w : World) :
    Calls Try.prog 5 #[.string a] w fun e w' => e = .returned (.string ⟨#[49, 50, 52]⟩) ∧ w' = w := by
  go_enter Try.func5, Try.ntmps5
  go_wp2
  go_ret
  exact ⟨rfl, rfl⟩

theorem is_buy (a : ByteArray) (h : (a.toList == [48, 50, 50]) = true) : a = ⟨#[48, 50, 50]⟩ := by
  have h1 : a.toList = [48, 50, 50] := by simpa using h
  rw [ByteArray.toList_eq] at h1
  exact bytes_inj h1

theorem walk (a0 : ByteArray) (a1 : ByteArray) (w0 : a0.size ≤ maxLen) (w1 : a1.size ≤ maxLen) (w : World) :
    Calls Try.prog 3 #[.string a0, .string a1] w fun e w' => e = .returned (.bool true) ∧ Grown w w' := by
  have hx : ((⟨#[49]⟩ : ByteArray) ++ ByteArray.extract ⟨#[48, 50, 50]⟩ 1 3).toList = [49, 50, 50] := by decide +kernel
  cases h0 : a0.toList == [48, 50, 50]
  · cases h1 : a1.toList == [48, 50, 50]
    · go_enter Try.func3, Try.ntmps3
      go_wp2_with (first | (go_at_call 4; refine (bytes_any _ _ w0 w1 _).mono ?_; rintro e w' ⟨⟨b, rfl⟩, rfl⟩; cases b) | (go_at_call_of 5 (Value.string ⟨#[48, 50, 50]⟩); refine (code_buy _).mono ?_; rintro e w' ⟨rfl, rfl⟩) | (go_at_call 5; refine (code_else _ ?_ _).mono ?_; assumption; rintro e w' ⟨rfl, rfl⟩))
      all_goals go_ret
      all_goals exact ⟨rfl, by repeat (first | exact Grown.refl _ | apply Grown.drew | apply Grown.alloc)⟩
    · obtain rfl := is_buy a1 h1
      clear h1
      go_enter Try.func3, Try.ntmps3
      go_wp2_with (first | (go_at_call 4; refine (bytes_any _ _ w0 w1 _).mono ?_; rintro e w' ⟨⟨b, rfl⟩, rfl⟩; cases b) | (go_at_call_of 5 (Value.string ⟨#[48, 50, 50]⟩); refine (code_buy _).mono ?_; rintro e w' ⟨rfl, rfl⟩) | (go_at_call 5; refine (code_else _ ?_ _).mono ?_; assumption; rintro e w' ⟨rfl, rfl⟩))
      all_goals go_ret
      all_goals exact ⟨rfl, by repeat (first | exact Grown.refl _ | apply Grown.drew | apply Grown.alloc)⟩
  · obtain rfl := is_buy a0 h0
    clear h0
    cases h1 : a1.toList == [48, 50, 50]
    · go_enter Try.func3, Try.ntmps3
      go_wp2_with (first | (go_at_call 4; refine (bytes_any _ _ w0 w1 _).mono ?_; rintro e w' ⟨⟨b, rfl⟩, rfl⟩; cases b) | (go_at_call_of 5 (Value.string ⟨#[48, 50, 50]⟩); refine (code_buy _).mono ?_; rintro e w' ⟨rfl, rfl⟩) | (go_at_call 5; refine (code_else _ ?_ _).mono ?_; assumption; rintro e w' ⟨rfl, rfl⟩))
      all_goals go_ret
      all_goals exact ⟨rfl, by repeat (first | exact Grown.refl _ | apply Grown.drew | apply Grown.alloc)⟩
    · obtain rfl := is_buy a1 h1
      clear h1
      go_enter Try.func3, Try.ntmps3
      go_wp2_with (first | (go_at_call 4; refine (bytes_any _ _ w0 w1 _).mono ?_; rintro e w' ⟨⟨b, rfl⟩, rfl⟩; cases b) | (go_at_call_of 5 (Value.string ⟨#[48, 50, 50]⟩); refine (code_buy _).mono ?_; rintro e w' ⟨rfl, rfl⟩) | (go_at_call 5; refine (code_else _ ?_ _).mono ?_; assumption; rintro e w' ⟨rfl, rfl⟩))
      all_goals go_ret
      all_goals exact ⟨rfl, by repeat (first | exact Grown.refl _ | apply Grown.drew | apply Grown.alloc)⟩


/-! ### THE ROW's STEP: WRITTEN OUT: LEAVE IT -/
set_option maxRecDepth 100000 in
theorem lifted (os : Os) (started : os.Started) (H : Type) (enc : TypeId × Value → H) :
    ReturnsInHanded {} Try.checked os 3 .any (Rows.fnConfirmationCodeSeparatesPurchaseFromAllElseSpec.pre6 enc Try.prog Try.f3 Rows.fnConfirmationCodeSeparatesPurchaseFromAllElseRow.domain false) (Rows.fnConfirmationCodeSeparatesPurchaseFromAllElseSpec.post enc Try.prog Try.f3 false true false false) := by
  refine returnsInHanded_of_change (C := Try.checked) own started (by kernel_rfl) Try.func3
    (ChangeSpec.witness6 (enc := enc) (C := Try.checked) false ⟨#[], #[.string ByteArray.empty, .string ByteArray.empty], []⟩ 8 (by kernel_rfl) (by kernel_rfl) (by kernel_rfl) (by kernel_rfl)) ?_
  intro W base args ds gs before hval0 hW hcnd _
  have hval : ∀ (j : Nat) t v, Try.f3.params[j]? = some t → args[j]? = some v → Value.okWide Try.prog W .any base t v := hval0
  have hW' := hW
  obtain ⟨p, q, hA0, hV, rfl, hfz, hnd⟩ := hW
  have hA : DataW.TrodAll enc Try.prog W 0 (fun _ => true) true Try.f3.params.toList args.toList ds p := hA0
  rw [Try.params3] at hA hval
  obtain ⟨v0, vs0, d0, ds0, p0, q0, hargs, rfl, rfl, h0, r0⟩ := trodAll_cons hA
  obtain ⟨v1, vs1, d1, ds1, p1, q1, rfl, rfl, rfl, h1, r1⟩ := trodAll_cons r0
  obtain ⟨rfl, rfl, rfl⟩ := trodAll_nil r1
  obtain rfl : args = #[v0, v1] := by cases args; simp_all
  obtain ⟨rfl, rfl⟩ := trodVars_none hV
  obtain ⟨a0, rfl, rfl, rfl, w0⟩ := open_string Try.underlying9 (hval 0 9 v0 rfl rfl) h0
  obtain ⟨a1, rfl, rfl, rfl, w1⟩ := open_string Try.underlying9 (hval 1 9 v1 rfl rfl) h1
  clear hA0 hval0
  simp only [List.append_nil] at hW'
  refine (walk a0 a1 w0 w1 W).mono fun e W' ⟨he, hg⟩ => ?_
  subst he
  exact ⟨_, rfl, post_of_same (pa := []) (pv := []) hW' (fun _ _ _ => (trodAll_cons_mk (shut_bool Try.underlying4 _) trodAll_mk0)) (fun sp _ => (trodAll_cons_mk (shut_string Try.underlying9 w0) (trodAll_cons_mk (shut_string Try.underlying9 w1) trodAll_mk0))) (fun _ _ => rfl) rfl
    (hg.frame _) hg.2.1 (ok_one (by kernel_rfl) rfl (okWide_bool_mk Try.underlying4 _))⟩

theorem over : Rows.fnConfirmationCodeSeparatesPurchaseFromAllElseRow.holds Try.pinned (OpenSpec.ofChange Rows.fnConfirmationCodeSeparatesPurchaseFromAllElseSpec) :=
  OpenClaim.holds_of_wide 3 Try.f3 rfl rfl rfl rfl rfl rfl rfl ⟨rfl, rfl, rfl, rfl, rfl⟩ rfl rfl rfl rfl rfl (by kernel_rfl) Try.func3 (by kernel_rfl)
    (of_decide_eq_true (by kernel_rfl)) (by unfold Func.isWrapper; first | (rw [if_pos (by decide +kernel)]; kernel_rfl) | (rw [if_neg (by decide +kernel)]; exact ⟨rfl, rfl⟩))
    (fun os started H enc _ => lifted os started H enc)

/-- ████ THE STATEMENT ████ -/
theorem proved : Rows.FnConfirmationCodeSeparatesPurchaseFromAllElseSaid :=
  over
end Go.Proofs.Qxb6619415a.fnConfirmationCodeSeparatesPurchaseFromAllElse
