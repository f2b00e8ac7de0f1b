/-
  The law's own text.
-/
import Derived.Test.Qxb6619410aCopy
import Derived.Deep.DeepCutAuto
import Derived.WalkSpells
namespace Go.Proofs.Qxb6619410a
open Go.ChangeShapes Go.WideShapes Go.ChangeAt Go.RowKit

theorem Try.info4 : (Try.prog.info? 4).map (fun i => (i.zero, i.size, i.bytes)) = some (some (.bool false), 1, 1) := by kernel_rfl
theorem Try.info29 : (Try.prog.info? 29).map (fun i => (i.zero, i.size, i.bytes)) = some (some (.float .f64 0), 1, 8) := by kernel_rfl
theorem Try.size3 : (Try.prog.info? 3).map (·.size) = some 1 := by kernel_rfl
theorem Try.size4 : (Try.prog.info? 4).map (·.size) = some 1 := by kernel_rfl
theorem Try.size29 : (Try.prog.info? 29).map (·.size) = some 1 := by kernel_rfl

/-- The t-th negative row: it is a row, it is negative, and t negative rows stand ahead of it. -/
theorem negl_spec (r : Nat → Nat) (m t : Nat) (h : t < cnt r m) : (negl r m).getD t 0 < m ∧ (FloatKind.f64.format.order (r ((negl r m).getD t 0)) 0 == some .lt) = true ∧ cnt r ((negl r m).getD t 0) = t := by
  induction m with
  | zero => simp [cnt] at h
  | succ m ih =>
    have hl := negl_len r m
    cases hf : ng (r m) with
    | false =>
      rw [negl_no r m hf]
      rw [cnt_no r m hf] at h
      obtain ⟨h1, h2, h3⟩ := ih h
      exact ⟨by omega, h2, h3⟩
    | true =>
      rw [negl_yes r m hf]
      rw [cnt_yes r m hf] at h
      by_cases e : t < cnt r m
      · obtain ⟨h1, h2, h3⟩ := ih e
        have e2 : (negl r m ++ [m]).getD t 0 = (negl r m).getD t 0 := by
          rw [List.getD_eq_getElem?_getD, List.getD_eq_getElem?_getD, List.getElem?_append_left (by omega)]
        rw [e2]
        exact ⟨by omega, h2, h3⟩
      · have e3 : t = cnt r m := by omega
        have e2 : (negl r m ++ [m]).getD t 0 = m := by
          rw [List.getD_eq_getElem?_getD, List.getElem?_append_right (by omega), hl, e3]; simp
        rw [e2]
        exact ⟨by omega, hf, e3.symm⟩

theorem artificial {j : Nat → Int} {r : Nat → Nat} {n0 n1 n m : Nat} (h : Prem j r n0 n1 n m) (t : Nat) (ht : t < n0) (hbig : (n : Int) + m ≤ j t) :
    ∃ y s : Nat, y < m ∧ s < cnt r m ∧ cnt r y = s ∧ (FloatKind.f64.format.order (r y) 0 == some .lt) = true ∧ j t = n + m + s ∧ newj j r n m t = n + y := by
  have h2 := h.2 t ht hbig
  obtain ⟨s, hs⟩ : ∃ s : Nat, j t = n + m + s := ⟨(j t - n - m).toNat, by omega⟩
  have hsl : s < cnt r m := by omega
  obtain ⟨h3, h4, h5⟩ := negl_spec r m s hsl
  refine ⟨(negl r m).getD s 0, s, h3, hsl, h5, h4, hs, ?_⟩
  unfold newj
  rw [if_pos hbig, show (j t - n - m).toNat = s from by omega]

theorem Sl.up {B B' : Nat} {w w' : World} {a : Option Addr} {n : Nat} {f : Nat → Value} (h : Sl B w a n f) (hb : Below B w w') (hB : B ≤ B') : Sl B' w' a n f := by
  intro i hi
  obtain ⟨b, off, ha, hlt, hc⟩ := h i hi
  exact ⟨b, off, ha, by omega, (hb.cell (p := ⟨b, off + i, none⟩) hlt).trans hc⟩
/-- From one world to the next, all its blocks kept. -/
theorem Sl.next {w w' : World} {a : Option Addr} {n : Nat} {f : Nat → Value} (h : Hid (Sl w.heap.size w a n f)) (hb : Hid (Below w.heap.size w w')) : Hid (Sl w'.heap.size w' a n f) := h.out.up hb.out hb.out.size

def Fin (w : World) (e : Ending) (w' : World) : Prop := e = .returned (.bool true) ∧ Below w.heap.size w w'
set_option maxRecDepth 100000 in
set_option maxHeartbeats 2000000 in
theorem law_any (a0 a1 a2 a3 a4 a5 : Option Addr) (n0 c0 n1 c1 n2 c2 n3 c3 n4 c4 n5 c5 : Nat) (j : Nat → Int) (fl : Nat → Bool) (co r up : Nat → Nat) (RA : Nat → Option Addr) (RL RC : Nat → Nat) (w : World)
    (hn3 : n3 ≤ maxLen) (hnc : n1 ≤ c1) (hj : ∀ i, i < n0 → -9223372036854775808 ≤ j i ∧ j i ≤ 9223372036854775807)
    (h0 : Sl w.heap.size w a0 n0 (fun i => .int .i64 (j i))) (h1 : Sl w.heap.size w a1 n1 (fun i => .bool (fl i))) (h2 : Sl w.heap.size w a2 n2 (fun i => .float .f64 (co i)))
    (h3 : Sl w.heap.size w a3 n3 (fun i => .slice (RA i) (RL i) (RC i))) (h4 : Sl w.heap.size w a4 n4 (fun i => .float .f64 (r i))) (h5 : Sl w.heap.size w a5 n5 (fun i => .float .f64 (up i))) :
    Calls Try.prog 3 #[.slice a0 n0 c0, .slice a1 n1 c1, .slice a2 n2 c2, .slice a3 n3 c3, .slice a4 n4 c4, .slice a5 n5 c5] w fun e w' => Fin w e w' := by
  have H0 : Hid (Sl w.heap.size w a0 n0 (fun i => .int .i64 (j i))) := h0
  have H1 : Hid (Sl w.heap.size w a1 n1 (fun i => .bool (fl i))) := h1
  have H2 : Hid (Sl w.heap.size w a2 n2 (fun i => .float .f64 (co i))) := h2
  have H3 : Hid (Sl w.heap.size w a3 n3 (fun i => .slice (RA i) (RL i) (RC i))) := h3
  have H4 : Hid (Sl w.heap.size w a4 n4 (fun i => .float .f64 (r i))) := h4
  have H5 : Hid (Sl w.heap.size w a5 n5 (fun i => .float .f64 (up i))) := h5
  have HJ : Hid (∀ i, i < n0 → -9223372036854775808 ≤ j i ∧ j i ≤ 9223372036854775807) := hj
  clear h0 h1 h2 h3 h4 h5 hj
  go_enter Try.func3, Try.ntmps3
  go_wp2_with fail
  refine (bytes_any w.heap.size a0 a1 a2 a3 a4 a5 n0 c0 n1 c1 n2 c2 n3 c3 n4 c4 n5 c5 hn3 RA RL RC _ H3.out).mono ?_
  rintro e w' ⟨⟨b, rfl⟩, hw⟩
  obtain rfl := hw.symm
  cases b
  · go_wp2
    go_ret
    exact ⟨rfl, Below.refl _ _⟩
  go_wp2_with fail
  all_goals first | (go_ret; exact ⟨rfl, Below.refl _ _⟩) | skip
  have b0 : n0 ≤ 1048576 := by omega
  have b1 : n1 ≤ 1048576 := by omega
  have b2 : n2 ≤ 1048576 := by omega
  have b4 : n4 ≤ 1048576 := by omega
  have b5 : n5 ≤ 1048576 := by omega
  refine (fit_any _ (by omega) (by omega) w.heap.size a3 n3 c3 hn3 RA RL RC _ H3.out).mono ?_
  rintro e w' ⟨⟨b, rfl⟩, hw⟩
  obtain rfl := hw.symm
  cases b
  · go_wp2
    go_ret
    exact ⟨rfl, Below.refl _ _⟩
  go_wp2_with fail
  refine (prem_any w.heap.size a0 a1 a2 a4 n0 c0 n1 c1 n2 c2 n4 c4 j r _ b0 b2 b4 HJ.out H0.out H4.out).mono ?_
  rintro e w' ⟨hb, hw⟩
  obtain rfl := hw.symm
  rcases hb with rfl | ⟨rfl, hprem⟩
  · go_wp2
    go_ret
    exact ⟨rfl, Below.refl _ _⟩
  have hn22 := fun (w : World) (a : Option Addr) (n c : Nat) => run_neq_slice_nil_any (P := Try.prog) w 22 3 a n c 0 0 Try.underlying22
  have hn23 := fun (w : World) (a : Option Addr) (n c : Nat) => run_neq_slice_nil_any (P := Try.prog) w 23 4 a n c 0 0 Try.underlying23
  have hn24 := fun (w : World) (a : Option Addr) (n c : Nat) => run_neq_slice_nil_any (P := Try.prog) w 24 29 a n c 0 0 Try.underlying24
  have HP : Hid (Prem j r n0 n1 n2 n4) := hprem
  clear hprem H3
  go_upto_if 89 with (fail)
  go_cut [0] (fun v wc => ∃ x0 d0, v = .slice x0 n0 d0 ∧ Hid (Sl wc.heap.size wc x0 n0 (fun i => .int .i64 (j i))) ∧ Hid (Below w.heap.size w wc))
  case first =>
    as_aux_lemma =>
    cases a0 with
    | none =>
      go_wp2
      go_meet
      case rel => exact ⟨none, c0, rfl, H0, Below.refl _ _⟩
    | some a =>
      have hmk := run_make_row' (P := Try.prog) 22 3 (.int .i64 0) 8 Try.underlying22 Try.info3 rfl .i64 .i64 n0 (by omega) (by omega)
      obtain ⟨wc, hrun, hS, hbel⟩ := copy_run (P := Try.prog) w 22 22 3 3 Try.underlying22 Try.size3 (.int .i64 0) n0 (some a) c0 (fun i => .int .i64 (j i)) H0.out (fun _ => rfl)
      go_wp2
      go_meet
      case rel => exact ⟨_, _, rfl, hS, hbel⟩
  case rest =>
  as_aux_lemma =>
  obtain ⟨w1x, rfl⟩ : ∃ x, x = wc := ⟨_, rfl⟩
  obtain ⟨x0, d0, rfl, K0, hB1⟩ := hcut
  clear H0
  replace H1 := Sl.next H1 hB1
  replace H2 := Sl.next H2 hB1
  replace H4 := Sl.next H4 hB1
  replace H5 := Sl.next H5 hB1
  have hb0 : Hid (Below w.heap.size w w1x) := hB1
  clear hB1
  go_upto_if 98 with (fail)
  go_cut [1] (fun v wc => ∃ x1 d1, v = .slice x1 n1 d1 ∧ n1 ≤ d1 ∧ Hid (Sl wc.heap.size wc x1 n1 (fun i => .bool (fl i))) ∧ Hid (Below w1x.heap.size w1x wc))
  case first =>
    as_aux_lemma =>
    cases a1 with
    | none =>
      go_wp2
      go_meet
      case rel => exact ⟨none, c1, rfl, hnc, H1, Below.refl _ _⟩
    | some a =>
      have hmk := run_make_row' (P := Try.prog) 23 4 (.bool false) 1 Try.underlying23 Try.info4 rfl .i64 .i64 n1 (by omega) (by omega)
      obtain ⟨wc, hrun, hS, hbel⟩ := copy_run (P := Try.prog) w1x 23 23 3 4 Try.underlying23 Try.size4 (.bool false) n1 (some a) c1 (fun i => .bool (fl i)) H1.out (fun _ => rfl)
      go_wp2
      go_meet
      case rel => exact ⟨_, _, rfl, Nat.le_refl _, hS, hbel⟩
  case rest =>
  as_aux_lemma =>
  obtain ⟨w2x, rfl⟩ : ∃ x, x = wc := ⟨_, rfl⟩
  obtain ⟨x1, d1, rfl, hnd, K1, hB2⟩ := hcut
  replace K0 := Sl.next K0 hB2
  clear H1
  replace H2 := Sl.next H2 hB2
  replace H4 := Sl.next H4 hB2
  replace H5 := Sl.next H5 hB2
  have hb1 : Hid (Below w.heap.size w w2x) := hb0.out.trans (hB2.out.mono hb0.out.size)
  clear hb0 hB2
  go_upto_if 107 with (fail)
  go_cut [2] (fun v wc => ∃ x2 d2, v = .slice x2 n2 d2 ∧ Hid (Sl wc.heap.size wc x2 n2 (fun i => .float .f64 (co i))) ∧ Hid (Below w2x.heap.size w2x wc))
  case first =>
    as_aux_lemma =>
    cases a2 with
    | none =>
      go_wp2
      go_meet
      case rel => exact ⟨none, c2, rfl, H2, Below.refl _ _⟩
    | some a =>
      have hmk := run_make_row' (P := Try.prog) 24 29 (.float .f64 0) 8 Try.underlying24 Try.info29 rfl .i64 .i64 n2 (by omega) (by omega)
      obtain ⟨wc, hrun, hS, hbel⟩ := copy_run (P := Try.prog) w2x 24 24 3 29 Try.underlying24 Try.size29 (.float .f64 0) n2 (some a) c2 (fun i => .float .f64 (co i)) H2.out (fun _ => rfl)
      go_wp2
      go_meet
      case rel => exact ⟨_, _, rfl, hS, hbel⟩
  case rest =>
  as_aux_lemma =>
  obtain ⟨w3x, rfl⟩ : ∃ x, x = wc := ⟨_, rfl⟩
  obtain ⟨x2, d2, rfl, K2, hB3⟩ := hcut
  replace K0 := Sl.next K0 hB3
  replace K1 := Sl.next K1 hB3
  clear H2
  replace H4 := Sl.next H4 hB3
  replace H5 := Sl.next H5 hB3
  have hb2 : Hid (Below w.heap.size w w3x) := hb1.out.trans (hB3.out.mono hb1.out.size)
  clear hb1 hB3
  go_upto_if 116 with (fail)
  go_cut [4] (fun v wc => ∃ x4 d4, v = .slice x4 n4 d4 ∧ Hid (Sl wc.heap.size wc x4 n4 (fun i => .float .f64 (r i))) ∧ Hid (Below w3x.heap.size w3x wc))
  case first =>
    as_aux_lemma =>
    cases a4 with
    | none =>
      go_wp2
      go_meet
      case rel => exact ⟨none, c4, rfl, H4, Below.refl _ _⟩
    | some a =>
      have hmk := run_make_row' (P := Try.prog) 24 29 (.float .f64 0) 8 Try.underlying24 Try.info29 rfl .i64 .i64 n4 (by omega) (by omega)
      obtain ⟨wc, hrun, hS, hbel⟩ := copy_run (P := Try.prog) w3x 24 24 3 29 Try.underlying24 Try.size29 (.float .f64 0) n4 (some a) c4 (fun i => .float .f64 (r i)) H4.out (fun _ => rfl)
      go_wp2
      go_meet
      case rel => exact ⟨_, _, rfl, hS, hbel⟩
  case rest =>
  as_aux_lemma =>
  obtain ⟨w4x, rfl⟩ : ∃ x, x = wc := ⟨_, rfl⟩
  obtain ⟨x4, d4, rfl, K4, hB4⟩ := hcut
  replace K0 := Sl.next K0 hB4
  replace K1 := Sl.next K1 hB4
  replace K2 := Sl.next K2 hB4
  clear H4
  replace H5 := Sl.next H5 hB4
  have hb3 : Hid (Below w.heap.size w w4x) := hb2.out.trans (hB4.out.mono hb2.out.size)
  clear hb2 hB4
  go_upto_if 125 with (fail)
  go_cut [5] (fun v wc => ∃ x5 d5, v = .slice x5 n5 d5 ∧ Hid (Sl wc.heap.size wc x5 n5 (fun i => .float .f64 (up i))) ∧ Hid (Below w4x.heap.size w4x wc))
  case first =>
    as_aux_lemma =>
    cases a5 with
    | none =>
      go_wp2
      go_meet
      case rel => exact ⟨none, c5, rfl, H5, Below.refl _ _⟩
    | some a =>
      have hmk := run_make_row' (P := Try.prog) 24 29 (.float .f64 0) 8 Try.underlying24 Try.info29 rfl .i64 .i64 n5 (by omega) (by omega)
      obtain ⟨wc, hrun, hS, hbel⟩ := copy_run (P := Try.prog) w4x 24 24 3 29 Try.underlying24 Try.size29 (.float .f64 0) n5 (some a) c5 (fun i => .float .f64 (up i)) H5.out (fun _ => rfl)
      go_wp2
      go_meet
      case rel => exact ⟨_, _, rfl, hS, hbel⟩
  case rest =>
  as_aux_lemma =>
  obtain ⟨w5x, rfl⟩ : ∃ x, x = wc := ⟨_, rfl⟩
  obtain ⟨x5, d5, rfl, K5, hB5⟩ := hcut
  replace K0 := Sl.next K0 hB5
  replace K1 := Sl.next K1 hB5
  replace K2 := Sl.next K2 hB5
  replace K4 := Sl.next K4 hB5
  clear H5
  have hb4 : Hid (Below w.heap.size w w5x) := hb3.out.trans (hB5.out.mono hb3.out.size)
  clear hb3 hB5
  have hsz5 : w.heap.size ≤ w5x.heap.size := hb4.out.size
  have hmk := run_make_row' (P := Try.prog) 22 3 (.int .i64 0) 8 Try.underlying22 Try.info3 rfl .i64 .i64 n4 (by omega) (by omega)
  go_wp2
  go_loopw [21, 22] (fun s q wr => ∃ k : Nat, k ≤ n4 ∧ s = .int .i64 (cnt r k) ∧ q = .int .i64 k ∧ Fill w5x wr w5x.heap.size n4 (fun i => (cnt r i : Int)) k) (fun _ q _ => n4 - (intOf q).toNat)
  case atStart => exact ⟨0, Nat.zero_le _, rfl, rfl, Fill.start _ _ _⟩
  case round =>
    as_aux_lemma =>
    obtain ⟨k, hk, rfl, rfl, hfill⟩ := hrel
    have hcl := cnt_le r k
    by_cases hlt : k < n4
    · obtain ⟨b, off, rfl, hbB, hc⟩ := (K4.out.later hfill.2) k hlt
      have hcg := hfill.1.cell hlt
      have hfg := hfill.1.frozen k
      have hc2 : ∀ v, (wr.setCell ⟨w5x.heap.size, k, none⟩ v).cell? ⟨b, off + k, none⟩ = some (.float .f64 (r k)) := fun v => by
        obtain ⟨b', off', e, _, h⟩ := (K4.out.later (hfill.2.setCell (p := ⟨w5x.heap.size, k, none⟩) (Nat.le_refl _) v)) k hlt
        simp only [Option.some.injEq, Addr.mk.injEq, and_true] at e
        obtain ⟨rfl, rfl⟩ := e
        exact h
      have HF : Hid (Fill w5x wr w5x.heap.size n4 (fun i => (cnt r i : Int)) k) := hfill
      clear hfill
      cases hf : (FloatKind.f64.format.order (r k) 0 == some .lt)
      · have HY : Hid (cnt r (k + 1) = cnt r k) := cnt_no r k hf
        go_wp2
        go_roundw
        case rel => exact ⟨k + 1, by omega, by rw [HY.out], by go_num, HF.out.put _ rfl⟩
        case measure => simp [intOf]; omega
      · have HY : Hid (cnt r (k + 1) = cnt r k + 1) := cnt_yes r k hf
        go_wp2
        go_roundw
        case rel => exact ⟨k + 1, by omega, by rw [HY.out]; go_num, by go_num, HF.out.put _ rfl⟩
        case measure => simp [intOf]; omega
    · obtain rfl : k = n4 := by omega
      obtain ⟨w6x, rfl⟩ : ∃ x, x = wr := ⟨_, rfl⟩
      have HF : Hid (Fill w5x w6x w5x.heap.size k (fun i => (cnt r i : Int)) k) := hfill
      have hs6 : w5x.heap.size < w6x.heap.size := hfill.1.lt
      clear hfill
      as_aux_lemma =>
      go_wp2_with fail
      refine (zzstart_any w5x.heap.size x0 x1 x2 a3 x4 x5 n0 d0 n1 d1 n2 d2 n3 c3 k d4 n5 d5 j r _ (by omega) b0 b2 b4 HP.out.1 hnd HJ.out HP.out.2 (K0.out.later HF.out.2) (K4.out.later HF.out.2)).mono ?_
      rintro e w7x ⟨g, rfl, hg, hrow, hbel⟩
      have HR : Hid (w7x.rowIs g 3 n0 (fun i => .int .i64 (newj j r n2 k i))) := hrow
      have HL : Hid (Below w6x.heap.size w6x w7x) := hbel
      clear hrow hbel
      have hb57 : Hid (Below w5x.heap.size w5x w7x) := HF.out.2.trans (HL.out.mono (by omega))
      have HB : Hid (w7x.rowIs w5x.heap.size 3 k (fun i => .int .i64 (cnt r i : Int))) := (HF.out.1.of_block (HL.out.block _ hs6)).congr fun i hi => by rw [if_pos hi]
      have HEnd : Hid (Below w.heap.size w w7x) := hb4.out.trans (hb57.out.mono hsz5)
      replace K0 : Hid (Sl w5x.heap.size w7x x0 n0 (fun i => .int .i64 (j i))) := K0.out.later hb57.out
      replace K1 : Hid (Sl w5x.heap.size w7x x1 n1 (fun i => .bool (fl i))) := K1.out.later hb57.out
      replace K4 : Hid (Sl w5x.heap.size w7x x4 k (fun i => .float .f64 (r i))) := K4.out.later hb57.out
      have hle1 : n2 ≤ n1 := HP.out.1
      clear HF HL hb57 hb4 K2 K5 hmk hn22 hn23 hn24
      go_wp2
      go_loopw [25] (fun i wr => ∃ q : Nat, q ≤ n2 ∧ i = .int .i64 q ∧ ∃ nq, wr = w7x.drewN nq) (fun i _ => n2 - (intOf i).toNat)
      case atStart => exact ⟨0, Nat.zero_le _, rfl, 0, rfl⟩
      case round =>
        as_aux_lemma =>
        obtain ⟨q, hq, rfl, nq, rfl⟩ := hrel
        by_cases hlt2 : q < n2
        · obtain ⟨b, off, rfl, hbB, hc⟩ := K1.out q (by omega)
          have hlt3 : (q : Int) < (n1 : Int) := by omega
          have hlt4 : (q : Int) < (n2 : Int) := by omega
          go_wp2
          go_quiet (fail)
          go_wp2
          go_roundw
          case rel => exact ⟨q + 1, by omega, by go_num, _, rfl⟩
          case measure => simp [intOf]; omega
        · obtain rfl : q = n2 := by omega
          go_wp2
          go_loop [26] (fun i => ∃ t : Nat, t ≤ n0 ∧ i = .int .i64 t) (fun i => n0 - (intOf i).toNat)
          case atStart => exact ⟨0, Nat.zero_le _, rfl⟩
          case round =>
            as_aux_lemma =>
            obtain ⟨t, ht, rfl⟩ := hrel
            by_cases hlt5 : t < n0
            · obtain ⟨b, off, rfl, hbB, hc⟩ := K0.out t hlt5
              have hcg := HR.out.cell hlt5
              obtain ⟨hj1, hj2⟩ := HJ.out t hlt5
              by_cases hbig : (q : Int) + k ≤ j t
              · obtain ⟨y, s, hy, hys, hcy, hf, he1, he2⟩ := artificial HP.out t hlt5 hbig
                rw [he2] at hcg
                obtain ⟨b4, o4, rfl, hbB4, hc4⟩ := K4.out y hy
                have hcb : w7x.cell? ⟨w5x.heap.size, y, none⟩ = some (.int .i64 (s : Int)) := by rw [HB.out.cell hy, hcy]
                have he3 : (q : Int) + y - q = y := by omega
                have he4 : (q : Int) + k + s - (q + k) = s := by omega
                have hyk : (y : Int) < (k : Int) := by omega
                clear he2 hcy
                go_wp2
                go_round
                case rel => exact ⟨t + 1, by omega, by go_num⟩
                case measure => simp [intOf]; omega
              · have he : newj j r q k t = j t := by unfold newj; rw [if_neg hbig]
                rw [he] at hcg
                clear he
                go_wp2
                go_round
                case rel => exact ⟨t + 1, by omega, by go_num⟩
                case measure => simp [intOf]; omega
            · go_wp2
              go_ret
              exact ⟨rfl, below_drewN HEnd.out nq⟩
end Go.Proofs.Qxb6619410a
