/-
  The row's proof: the frame after the kit's program (proof-skeleton.mjs), the readings of the arguments and the walk the prover's.
-/
import Derived.Test.Qxb6619410aLaw
import Derived.OpenShut
import Derived.ShutString
import Derived.ChangeOld
import Derived.Deep.Slices
namespace Go.Proofs.Qxb6619410a.fnExactStartRenumbersArtificials
open Go.ChangeShapes Go.WideShapes Go.ChangeAt Go.RowKit
set_option linter.unusedVariables false

theorem own : ownKnob Try.prog.godebug = none := by kernel_rfl
theorem laidOut : laidOutB Try.prog = true := by kernel_rfl

section
variable {H : Type} {enc : TypeId × Value → H} {P : Program} {w : World}

theorem trod_float' {spare : Nat → Bool} {held : Bool} {fuel base : Nat} {t : TypeId} {cs : List Value} {x : DataW H × List MemPlace} {k : FloatKind} (ht : P.underlying t = some (.float k)) (h : DataW.trod enc P w base spare held fuel t cs = some x) : ∃ n, cs = [.float k n] := by
  cases fuel with
  | zero => simp [DataW.trod] at h
  | succ n =>
    unfold DataW.trod at h
    rw [ht] at h
    split at h <;> simp_all

theorem trod_slice' {spare : Nat → Bool} {held : Bool} {fuel base : Nat} {t e : TypeId} {cs : List Value} {x : DataW H × List MemPlace} (ht : P.underlying t = some (.slice e)) (h : DataW.trod enc P w base spare held fuel t cs = some x) : ∃ a l c, cs = [.slice a l c] := by
  rcases Deep.open_slice ht h with ⟨h0, _⟩ | ⟨a, len, cap, _, _, _, _, h0, _⟩
  · exact ⟨_, _, _, h0⟩
  · exact ⟨_, _, _, h0⟩

/-- A slice that came in, of elements of one cell: its cells. -/
theorem open_sl {t e : TypeId} {a : Option Addr} {len cap : Nat} {d : DataW H} {p : List MemPlace} (ht : P.underlying t = some (.slice e)) (hc : P.cellsOf e = 1)
    (h : DataW.Trod enc P w 0 (fun _ => true) true t (.slice a len cap) d p) :
    len ≤ cap ∧ len ≤ maxLen ∧ ∃ V : Nat → Value, Sl w.heap.size w a len V ∧ ∀ i, i < len → ∃ n x, DataW.trod enc P w 0 (fun _ => true) true n e [V i] = some x := by
  obtain ⟨fuel, hf⟩ := h
  rcases Deep.open_slice1 ht hc hf with ⟨hcs, _⟩ | ⟨x, l, c, m, n, V, D, Pl, hcs, _, hl, hm, hmm, _, hcell⟩
  · simp [Value.cells] at hcs
    obtain ⟨rfl, rfl, rfl⟩ := hcs
    exact ⟨Nat.le_refl _, Nat.zero_le _, fun _ => undef, fun i hi => absurd hi (Nat.not_lt_zero _), fun i hi => absurd hi (Nat.not_lt_zero _)⟩
  · simp [Value.cells] at hcs
    obtain ⟨rfl, rfl, rfl⟩ := hcs
    simp only [if_true] at hmm
    subst hmm
    refine ⟨hl, Nat.le_trans hl hm, V, fun i hi => ?_, fun i hi => ⟨n, _, (hcell i (by omega)).2⟩⟩
    obtain ⟨b, off, spot⟩ := x
    have h1 := (hcell i (by omega)).1
    have hspot : spot = none := by simpa [Addr.add] using World.cell?_spot (hcell 0 (by omega)).1
    subst hspot
    rw [add_plain] at h1
    refine ⟨b, off, rfl, ?_, h1⟩
    exact block_lt_of_cell h1

theorem Sl.congr {B : Nat} {a : Option Addr} {n : Nat} {f g : Nat → Value} (h : Sl B w a n f) (e : ∀ i, i < n → f i = g i) : Sl B w a n g := by
  intro i hi
  obtain ⟨b, off, ha, hb, hc⟩ := h i hi
  exact ⟨b, off, ha, hb, by rw [← e i hi]; exact hc⟩

theorem open_sl_int {t e : TypeId} {a : Option Addr} {len cap : Nat} {d : DataW H} {p : List MemPlace} (ht : P.underlying t = some (.slice e)) (hc : P.cellsOf e = 1) (he : P.underlying e = some (.int .i64))
    (h : DataW.Trod enc P w 0 (fun _ => true) true t (.slice a len cap) d p) :
    len ≤ cap ∧ len ≤ maxLen ∧ ∃ j : Nat → Int, Sl w.heap.size w a len (fun i => .int .i64 (j i)) ∧ ∀ i, i < len → -9223372036854775808 ≤ j i ∧ j i ≤ 9223372036854775807 := by
  obtain ⟨h1, h2, V, hS, hV⟩ := open_sl ht hc h
  obtain ⟨j, hj⟩ := Deep.choose_lt (α := Int) (p := fun i x => V i = .int .i64 x ∧ (Lit.int .i64 x).wf = true) (fun i hi => by
    obtain ⟨n, x, hx⟩ := hV i hi
    obtain ⟨z, hz, _, hw⟩ := DataW.trod_int he hx
    simp at hz
    exact ⟨z, hz, hw⟩)
  exact ⟨h1, h2, j, Sl.congr hS fun i hi => (hj i hi).1, fun i hi => bounds_i64 (hj i hi).2⟩

theorem open_sl_bool {t e : TypeId} {a : Option Addr} {len cap : Nat} {d : DataW H} {p : List MemPlace} (ht : P.underlying t = some (.slice e)) (hc : P.cellsOf e = 1) (he : P.underlying e = some .bool)
    (h : DataW.Trod enc P w 0 (fun _ => true) true t (.slice a len cap) d p) :
    len ≤ cap ∧ len ≤ maxLen ∧ ∃ j : Nat → Bool, Sl w.heap.size w a len (fun i => .bool (j i)) := by
  obtain ⟨h1, h2, V, hS, hV⟩ := open_sl ht hc h
  obtain ⟨j, hj⟩ := Deep.choose_lt (α := Bool) (p := fun i x => V i = .bool x) (fun i hi => by
    obtain ⟨n, x, hx⟩ := hV i hi
    obtain ⟨z, hz, _⟩ := DataW.trod_bool he hx
    simp at hz
    exact ⟨z, hz⟩)
  exact ⟨h1, h2, j, Sl.congr hS fun i hi => hj i hi⟩

theorem open_sl_float {t e : TypeId} {a : Option Addr} {len cap : Nat} {d : DataW H} {p : List MemPlace} (ht : P.underlying t = some (.slice e)) (hc : P.cellsOf e = 1) (he : P.underlying e = some (.float .f64))
    (h : DataW.Trod enc P w 0 (fun _ => true) true t (.slice a len cap) d p) :
    len ≤ cap ∧ len ≤ maxLen ∧ ∃ j : Nat → Nat, Sl w.heap.size w a len (fun i => .float .f64 (j i)) := by
  obtain ⟨h1, h2, V, hS, hV⟩ := open_sl ht hc h
  obtain ⟨j, hj⟩ := Deep.choose_lt (α := Nat) (p := fun i x => V i = .float .f64 x) (fun i hi => by
    obtain ⟨n, x, hx⟩ := hV i hi
    obtain ⟨z, hz⟩ := trod_float' he hx
    simp at hz
    exact ⟨z, hz⟩)
  exact ⟨h1, h2, j, Sl.congr hS fun i hi => hj i hi⟩

theorem open_sl_slice {t e u : TypeId} {a : Option Addr} {len cap : Nat} {d : DataW H} {p : List MemPlace} (ht : P.underlying t = some (.slice e)) (hc : P.cellsOf e = 1) (he : P.underlying e = some (.slice u))
    (h : DataW.Trod enc P w 0 (fun _ => true) true t (.slice a len cap) d p) :
    len ≤ cap ∧ len ≤ maxLen ∧ ∃ (RA : Nat → Option Addr) (RL RC : Nat → Nat), Sl w.heap.size w a len (fun i => .slice (RA i) (RL i) (RC i)) := by
  obtain ⟨h1, h2, V, hS, hV⟩ := open_sl ht hc h
  obtain ⟨j, hj⟩ := Deep.choose_lt (α := Option Addr × Nat × Nat) (p := fun i x => V i = .slice x.1 x.2.1 x.2.2) (fun i hi => by
    obtain ⟨n, x, hx⟩ := hV i hi
    obtain ⟨z, l, c, hz⟩ := trod_slice' he hx
    simp at hz
    exact ⟨(z, l, c), hz⟩)
  exact ⟨h1, h2, fun i => (j i).1, fun i => (j i).2.1, fun i => (j i).2.2, Sl.congr hS fun i hi => hj i hi⟩
end

set_option maxRecDepth 100000 in
theorem lifted (os : Os) (started : os.Started) (H : Type) (enc : TypeId × Value → H) :
    ReturnsInHanded {} Try.checked os 3 .any (Rows.fnExactStartRenumbersArtificialsSpec.pre6 enc Try.prog Try.f3 Rows.fnExactStartRenumbersArtificialsRow.domain false) (Rows.fnExactStartRenumbersArtificialsSpec.post enc Try.prog Try.f3 false true false false) := by
  refine returnsInHanded_of_change (C := Try.checked) own started (by kernel_rfl) Try.func3
    (ChangeSpec.witness6 (enc := enc) (C := Try.checked) false ⟨#[], #[.slice none 0 0, .slice none 0 0, .slice none 0 0, .slice none 0 0, .slice none 0 0, .slice none 0 0], []⟩ 8 (by kernel_rfl) (by kernel_rfl) (by kernel_rfl) (by kernel_rfl)) ?_
  intro W base args ds gs before hval0 hW hcnd _
  have hval : ∀ (j : Nat) t v, Try.f3.params[j]? = some t → args[j]? = some v → Value.okWide Try.prog W .any base t v := hval0
  have hW' := hW
  obtain ⟨p, q, hA0, hV, rfl, hfz, hnd⟩ := hW
  have hA : DataW.TrodAll enc Try.prog W 0 (fun _ => true) true Try.f3.params.toList args.toList ds p := hA0
  rw [Try.params3] at hA hval
  obtain ⟨v0, vs0, d0, ds0, p0, q0, hargs, rfl, rfl, h0, r0⟩ := trodAll_cons hA
  obtain ⟨v1, vs1, d1, ds1, p1, q1, rfl, rfl, rfl, h1, r1⟩ := trodAll_cons r0
  obtain ⟨v2, vs2, d2, ds2, p2, q2, rfl, rfl, rfl, h2, r2⟩ := trodAll_cons r1
  obtain ⟨v3, vs3, d3, ds3, p3, q3, rfl, rfl, rfl, h3, r3⟩ := trodAll_cons r2
  obtain ⟨v4, vs4, d4, ds4, p4, q4, rfl, rfl, rfl, h4, r4⟩ := trodAll_cons r3
  obtain ⟨v5, vs5, d5, ds5, p5, q5, rfl, rfl, rfl, h5, r5⟩ := trodAll_cons r4
  obtain ⟨rfl, rfl, rfl⟩ := trodAll_nil r5
  obtain rfl : args = #[v0, v1, v2, v3, v4, v5] := by cases args; simp_all
  obtain ⟨rfl, rfl⟩ := trodVars_none hV
  obtain ⟨a0, len0, cap0, rfl⟩ := okWide_slice Try.underlying22 (hval 0 22 v0 rfl rfl)
  have k0 := h0
  have lt0 : ∀ x ∈ p0, x.block < W.heap.size := by obtain ⟨m, hm⟩ := k0; exact DataW.trod_lt m _ _ _ hm
  obtain ⟨lc0, lm0, z0, w0, wf0⟩ := open_sl_int Try.underlying22 (by kernel_rfl) Try.underlying3 h0
  obtain ⟨a1, len1, cap1, rfl⟩ := okWide_slice Try.underlying23 (hval 1 23 v1 rfl rfl)
  have k1 := h1
  have lt1 : ∀ x ∈ p1, x.block < W.heap.size := by obtain ⟨m, hm⟩ := k1; exact DataW.trod_lt m _ _ _ hm
  obtain ⟨lc1, lm1, z1, w1⟩ := open_sl_bool Try.underlying23 (by kernel_rfl) Try.underlying4 h1
  obtain ⟨a2, len2, cap2, rfl⟩ := okWide_slice Try.underlying24 (hval 2 24 v2 rfl rfl)
  have k2 := h2
  have lt2 : ∀ x ∈ p2, x.block < W.heap.size := by obtain ⟨m, hm⟩ := k2; exact DataW.trod_lt m _ _ _ hm
  obtain ⟨lc2, lm2, z2, w2⟩ := open_sl_float Try.underlying24 (by kernel_rfl) Try.underlying29 h2
  obtain ⟨a3, len3, cap3, rfl⟩ := okWide_slice Try.underlying25 (hval 3 25 v3 rfl rfl)
  have k3 := h3
  have lt3 : ∀ x ∈ p3, x.block < W.heap.size := by obtain ⟨m, hm⟩ := k3; exact DataW.trod_lt m _ _ _ hm
  obtain ⟨lc3, lm3, RA, RL, RC, w3⟩ := open_sl_slice Try.underlying25 (by kernel_rfl) Try.underlying24 h3
  obtain ⟨a4, len4, cap4, rfl⟩ := okWide_slice Try.underlying24 (hval 4 24 v4 rfl rfl)
  have k4 := h4
  have lt4 : ∀ x ∈ p4, x.block < W.heap.size := by obtain ⟨m, hm⟩ := k4; exact DataW.trod_lt m _ _ _ hm
  obtain ⟨lc4, lm4, z4, w4⟩ := open_sl_float Try.underlying24 (by kernel_rfl) Try.underlying29 h4
  obtain ⟨a5, len5, cap5, rfl⟩ := okWide_slice Try.underlying24 (hval 5 24 v5 rfl rfl)
  have k5 := h5
  have lt5 : ∀ x ∈ p5, x.block < W.heap.size := by obtain ⟨m, hm⟩ := k5; exact DataW.trod_lt m _ _ _ hm
  obtain ⟨lc5, lm5, z5, w5⟩ := open_sl_float Try.underlying24 (by kernel_rfl) Try.underlying29 h5
  clear hA0 hval0
  refine (law_any a0 a1 a2 a3 a4 a5 len0 cap0 len1 cap1 len2 cap2 len3 cap3 len4 cap4 len5 cap5 z0 z1 z2 z4 z5 RA RL RC W lm3 lc1 wf0 w0 w1 w2 w3 w4 w5).mono fun e W' ⟨he, bel⟩ => ?_
  subst he
  exact ⟨_, rfl, _, _, _, [], _, [], hW', trodAll_mk1 (shut_bool Try.underlying4 _), (trodAll_cons_mk (Below.trod laidOut (by kernel_rfl) (of_decide_eq_true (by kernel_rfl)) k0 bel lt0) (trodAll_cons_mk (Below.trod laidOut (by kernel_rfl) (of_decide_eq_true (by kernel_rfl)) k1 bel lt1) (trodAll_cons_mk (Below.trod laidOut (by kernel_rfl) (of_decide_eq_true (by kernel_rfl)) k2 bel lt2) (trodAll_cons_mk (Below.trod laidOut (by kernel_rfl) (of_decide_eq_true (by kernel_rfl)) k3 bel lt3) (trodAll_cons_mk (Below.trod laidOut (by kernel_rfl) (of_decide_eq_true (by kernel_rfl)) k4 bel lt4) (trodAll_cons_mk (Below.trod laidOut (by kernel_rfl) (of_decide_eq_true (by kernel_rfl)) k5 bel lt5) trodAll_mk0)))))), rfl, bel.frame _, fun h => by cases h⟩

theorem over : Rows.fnExactStartRenumbersArtificialsRow.holds Try.pinned (OpenSpec.ofChange Rows.fnExactStartRenumbersArtificialsSpec) :=
  OpenClaim.holds_of_wide 3 Try.f3 rfl rfl rfl rfl rfl rfl rfl ⟨rfl, rfl, rfl, rfl, rfl⟩ rfl rfl rfl rfl rfl (by kernel_rfl) Try.func3 (by kernel_rfl)
    (of_decide_eq_true (by kernel_rfl)) (by unfold Func.isWrapper; first | (rw [if_pos (by decide +kernel)]; kernel_rfl) | (rw [if_neg (by decide +kernel)]; exact ⟨rfl, rfl⟩))
    (fun os started H enc _ => lifted os started H enc)

theorem proved : Rows.FnExactStartRenumbersArtificialsSaid := over
end Go.Proofs.Qxb6619410a.fnExactStartRenumbersArtificials
