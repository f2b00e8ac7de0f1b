/-
  exactStart and its wrapper.
-/
import Derived.Test.Qxb6619410aPrem
import Derived.Deep.OwnRows
import Derived.Deep.QuietTactic
import Derived.BigQuiet
import Derived.WalkSmall
namespace Go.Proofs.Qxb6619410a
open Go.ChangeShapes Go.WideShapes Go.ChangeAt Go.RowKit

theorem Try.info3 : (Try.prog.info? 3).map (fun i => (i.zero, i.size, i.bytes)) = some (some (.int .i64 0), 1, 8) := by kernel_rfl

/-- The rows whose right-hand side is negative, of the first k. -/
def negl (r : Nat → Nat) : Nat → List Nat
  | 0 => []
  | k + 1 => negl r k ++ if ng (r k) then [k] else []
theorem negl_len (r : Nat → Nat) (k : Nat) : (negl r k).length = cnt r k := by
  induction k with
  | zero => rfl
  | succ k ih => simp only [negl, cnt, List.length_append, ih]; split <;> rfl
theorem negl_mem (r : Nat → Nat) (k x : Nat) (h : x ∈ negl r k) : x < k := by
  induction k with
  | zero => simp [negl] at h
  | succ k ih =>
    simp only [negl, List.mem_append] at h
    rcases h with h | h
    · have := ih h; omega
    · split at h <;> simp at h; omega
theorem negl_lt (r : Nat → Nat) (k t : Nat) : (negl r k).getD t 0 ≤ k := by
  by_cases h : t < (negl r k).length
  · rw [List.getD_eq_getElem?_getD, List.getElem?_eq_getElem h]
    exact Nat.le_of_lt (negl_mem r k _ (List.getElem_mem h))
  · rw [List.getD_eq_getElem?_getD, List.getElem?_eq_none (by omega)]; simp
theorem negl_at (r : Nat → Nat) (k t : Nat) (h : t < (negl r k).length) : ((negl r k).map fun q : Nat => Value.int .i64 (q : Int))[t]? = some (.int .i64 ((negl r k).getD t 0 : Nat)) := by
  rw [List.getElem?_map, List.getD_eq_getElem?_getD, List.getElem?_eq_getElem h]; rfl
/-- The entry as exactStart gives it. -/
def newj (j : Nat → Int) (r : Nat → Nat) (n m : Nat) (i : Nat) : Int :=
  if (n : Int) + m ≤ j i then n + ((negl r m).getD (j i - n - m).toNat 0 : Nat) else j i

theorem Sl.later {B : Nat} {w w' : World} {a : Option Addr} {n : Nat} {f : Nat → Value} (h : Sl B w a n f) (hb : Below B w w') : Sl B w' a n f := by
  intro i hi
  obtain ⟨b, off, ha, hlt, hc⟩ := h i hi
  exact ⟨b, off, ha, hlt, (hb.cell (p := ⟨b, off + i, none⟩) hlt).trans hc⟩
theorem negl_yes (r : Nat → Nat) (k : Nat) (h : (FloatKind.f64.format.order (r k) 0 == some .lt) = true) : negl r (k + 1) = negl r k ++ [k] := by
  have h' : ng (r k) = true := h
  simp only [negl]; rw [if_pos h']
theorem negl_no (r : Nat → Nat) (k : Nat) (h : (FloatKind.f64.format.order (r k) 0 == some .lt) = false) : negl r (k + 1) = negl r k := by
  have h' : ng (r k) = false := h
  simp only [negl]; rw [h']; simp
/-- The state of the first loop. -/
def Negs (wb : World) (B : Nat) (r : Nat → Nat) (k : Nat) (v : Value) (wr : World) : Prop :=
  wr.ownsRow B 3 1 v (negl r k).length ((negl r k).map fun q : Nat => Value.int .i64 (q : Int)) ∧ Below B wb wr
theorem Negs.start (wb : World) (B : Nat) (r : Nat → Nat) : Negs wb B r 0 (.slice none 0 0) wb := ⟨World.ownsRow_nil _ _ _ _, Below.refl _ _⟩
theorem Negs.skip {wb wr : World} {B : Nat} {r : Nat → Nat} {k : Nat} {v : Value} (h : Negs wb B r k v wr) (e : (FloatKind.f64.format.order (r k) 0 == some .lt) = false) : Negs wb B r (k + 1) v wr := by
  unfold Negs; rw [negl_no r k e]; exact h
theorem Negs.add {wb wr w1 : World} {B : Nat} {r : Nat → Nat} {k : Nat} {v v' : Value} {o : Obj} (h : Negs wb B r k v wr) (hB : B ≤ wr.heap.size) (e : (FloatKind.f64.format.order (r k) 0 == some .lt) = true)
    (hown : w1.ownsRow B 3 1 v' ((negl r k).length + 1) (((negl r k).map fun q : Nat => Value.int .i64 (q : Int)) ++ [.int .i64 (k : Int)])) (hg : (wr.alloc o).grownBy w1 v.ownBlock) : Negs wb B r (k + 1) v' w1 := by
  unfold Negs; rw [negl_yes r k e]
  refine ⟨by simpa using hown, ?_⟩
  refine (h.2.alloc hB o).grown hg (by simp; omega) ?_
  intro g hgk
  rcases h.1.2 with ⟨rfl, _⟩ | ⟨g', cap, cur, rfl, hg', _⟩
  · simp [Value.ownBlock] at hgk
  · simp [Value.ownBlock] at hgk; omega

/-- The state of the second loop: the first q entries of the new basis stand. -/
def Fill (wr wx : World) (g n0 : Nat) (F : Nat → Int) (q : Nat) : Prop := wx.rowIs g 3 n0 (fun i => .int .i64 (if i < q then F i else 0)) ∧ Below g wr wx
theorem Fill.start (wr : World) (n0 : Nat) (F : Nat → Int) : Fill wr (wr.alloc (.cells (madeCells #[.int .i64 0] n0) 3)) wr.heap.size n0 F 0 :=
  ⟨(World.rowIs_made wr (.int .i64 0) n0 3).congr fun i _ => by simp, (Below.refl _ _).alloc (Nat.le_refl _) _⟩
theorem Fill.put {wr wx : World} {g n0 : Nat} {F : Nat → Int} {q : Nat} (h : Fill wr wx g n0 F q) (x : Int) (hx : F q = x) : Fill wr (wx.setCell ⟨g, q, none⟩ (.int .i64 x)) g n0 F (q + 1) := by
  refine ⟨(h.1.set q (.int .i64 x)).congr fun i _ => ?_, h.2.setCell (p := ⟨g, q, none⟩) (Nat.le_refl _) _⟩
  by_cases e : i = q
  · subst e; simp [hx]
  · simp only [e, if_false]
    by_cases e2 : i < q
    · rw [if_pos e2, if_pos (by omega)]
    · rw [if_neg e2, if_neg (by omega)]
theorem Fill.put2 {wr wx : World} {g n0 : Nat} {F : Nat → Int} {q : Nat} (h : Fill wr wx g n0 F q) (y x : Int) (hx : F q = x) : Fill wr ((wx.setCell ⟨g, q, none⟩ (.int .i64 y)).setCell ⟨g, q, none⟩ (.int .i64 x)) g n0 F (q + 1) := by
  refine ⟨((h.1.set q (.int .i64 y)).set q (.int .i64 x)).congr fun i _ => ?_, (h.2.setCell (p := ⟨g, q, none⟩) (Nat.le_refl _) _).setCell (p := ⟨g, q, none⟩) (Nat.le_refl _) _⟩
  by_cases e : i = q
  · subst e; simp [hx]
  · simp only [e, if_false]
    by_cases e2 : i < q
    · rw [if_pos e2, if_pos (by omega)]
    · rw [if_neg e2, if_neg (by omega)]

/-- What exactStart leaves: the new basis in block g. -/
def StartE (W : World) (j : Nat → Int) (r : Nat → Nat) (n0 n m : Nat) (a1 : Option Addr) (c1 : Nat) (e : Ending) (w' : World) : Prop :=
  ∃ g, e = .returned (.tuple #[.slice (some ⟨g, 0, none⟩) n0 n0, .slice a1 n c1]) ∧ W.heap.size ≤ g ∧ w'.rowIs g 3 n0 (fun i => .int .i64 (newj j r n m i)) ∧ Below W.heap.size W w'

set_option maxHeartbeats 1000000 in
theorem start_any (B p : Nat) (a0 a1 a2 a4 : Option Addr) (n0 c0 n1 c1 n c2 m c4 : Nat) (vr vu : Value) (j : Nat → Int) (r : Nat → Nat) (w : World)
    (hB : B ≤ w.heap.size) (hp : p < w.heap.size)
    (hp3 : w.cell? ⟨p, 3, none⟩ = some (.slice a0 n0 c0)) (hp7 : w.cell? ⟨p, 7, none⟩ = some (.slice a1 n1 c1))
    (hn0 : n0 ≤ 1048576) (hn : n ≤ 1048576) (hm : m ≤ 1048576) (hn1 : n ≤ n1) (hnc : n1 ≤ c1) (hj : ∀ i, i < n0 → -9223372036854775808 ≤ j i ∧ j i ≤ 9223372036854775807)
    (hpr : ∀ i, i < n0 → (n : Int) + m ≤ j i → j i - (n + m) < cnt r m)
    (h0 : Sl B w a0 n0 (fun i => .int .i64 (j i))) (h4 : Sl B w a4 m (fun i => .float .f64 (r i))) :
    Calls Try.prog 16 #[.pointer (some ⟨p, 0, none⟩), .agg #[.slice a2 n c2, vr, .slice a4 m c4, vu]] w fun e w' => StartE w j r n0 n m a1 c1 e w' := by
  have H0 : Hid (Sl B w a0 n0 (fun i => .int .i64 (j i))) := h0
  have H4 : Hid (Sl B w a4 m (fun i => .float .f64 (r i))) := h4
  have HJ : Hid (∀ i, i < n0 → -9223372036854775808 ≤ j i ∧ j i ≤ 9223372036854775807) := hj
  have HP : Hid (∀ i, i < n0 → (n : Int) + m ≤ j i → j i - (n + m) < cnt r m) := hpr
  clear h0 h4 hj hpr
  obtain ⟨i0, hi, hz0, hz1, hz2⟩ := info_parts Try.info3
  go_enter Try.func16, Try.ntmps16
  go_wp2
  go_loopw [7, 18] (fun v i wr => ∃ k : Nat, k ≤ m ∧ i = .int .i64 k ∧ Negs (w.alloc (Obj.cells #[Value.slice a2 n c2, vr, Value.slice a4 m c4, vu] 43)) (w.heap.size + 1) r k v wr) (fun _ i _ => m - (intOf i).toNat)
  case atStart => exact ⟨0, Nat.zero_le _, rfl, Negs.start _ _ _⟩
  case round =>
    obtain ⟨k, hk, rfl, hneg⟩ := hrel
    have hcl : (negl r k).length ≤ k := by rw [negl_len]; exact cnt_le r k
    have hsz : w.heap.size + 1 ≤ wr.heap.size := by have := hneg.2.size; simpa using this
    by_cases hlt : k < m
    · have hbl : Below B w wr := ((Below.refl B w).alloc hB (Obj.cells #[Value.slice a2 n c2, vr, Value.slice a4 m c4, vu] 43)).trans (hneg.2.mono (by omega))
      obtain ⟨b, off, rfl, _, hc⟩ := (H4.out.later hbl) k hlt
      clear hbl
      cases hf : (FloatKind.f64.format.order (r k) 0 == some .lt)
      · have HN := hneg.skip hf
        clear hneg
        go_wp2
        go_roundw
        case rel => exact ⟨k + 1, by omega, by go_num, HN⟩
        case measure => simp [intOf]; omega
      · have HN : Hid (Negs (w.alloc (Obj.cells #[Value.slice a2 n c2, vr, Value.slice (some ⟨b, off, none⟩) m c4, vu] 43)) (w.heap.size + 1) r k u7 wr) := hneg
        clear hneg
        have hO := HN.out.1
        go_wp2_with (at_builtin; refine wpList_append_own _ rfl _ _ 22 rfl (w.heap.size + 1) 3 i0 (.int .i64 0) 1 8 Try.underlying22 hi hz0 hz1 hz2 rfl (by decide) _ _ _ rfl (hO.alloc _) ⟨wr.heap.size, 0, none⟩ 1 1 [.int .i64 (k : Int)] rfl rfl ?c1 ?c2 ?c3 ?c4 ?c5 ?_)
        case c2 => rfl
        case c3 => unfold maxLen; omega
        case c4 => omega
        case c5 => omega
        intro v' w1 hown' hgrow _
        have R := HN.out.add hsz hf hown' hgrow
        clear hown' hgrow
        go_wp2
        go_roundw
        case rel => exact ⟨k + 1, by omega, by go_num, R⟩
        case measure => simp [intOf]; omega
    · obtain rfl : k = m := by omega
      obtain ⟨w2, rfl⟩ : ∃ x, x = wr := ⟨_, rfl⟩
      have hbw : Below w.heap.size w w2 := ((Below.refl w.heap.size w).alloc (Nat.le_refl _) (Obj.cells #[Value.slice a2 n c2, vr, Value.slice a4 k c4, vu] 43)).trans (hneg.2.mono (by omega))
      have hq3 : w2.cell? ⟨p, 3, none⟩ = some (.slice a0 n0 c0) := (hbw.cell (p := ⟨p, 3, none⟩) hp).trans hp3
      have hq7 : w2.cell? ⟨p, 7, none⟩ = some (.slice a1 n1 c1) := (hbw.cell (p := ⟨p, 7, none⟩) hp).trans hp7
      have hbx : w2.cell? ⟨w.heap.size, 2, none⟩ = some (.slice a4 k c4) := (hneg.2.cell (p := ⟨w.heap.size, 2, none⟩) (by simp)).trans (by simp)
      have hmk := run_make_row' (P := Try.prog) 22 3 (.int .i64 0) 8 Try.underlying22 Try.info3 rfl .i64 .i64 n0 (by omega) (by omega)
      have HN : Hid (Negs (w.alloc (Obj.cells #[Value.slice a2 n c2, vr, Value.slice a4 k c4, vu] 43)) (w.heap.size + 1) r k u7 w2) := hneg
      have HW : Hid (Below w.heap.size w w2) := hbw
      have hpl : p < w2.heap.size := by omega
      have hg3 : ∀ o, (w2.alloc o).cell? ⟨p, 3, none⟩ = some (.slice a0 n0 c0) := fun o => (((Below.refl w2.heap.size w2).alloc (Nat.le_refl _) o).cell (p := ⟨p, 3, none⟩) hpl).trans hq3
      clear hneg hbw hpl
      go_wp2
      go_loopw [41] (fun i wx => ∃ q : Nat, q ≤ n0 ∧ i = .int .i64 q ∧ Fill w2 wx w2.heap.size n0 (newj j r n k) q) (fun i _ => n0 - (intOf i).toNat)
      case atStart => exact ⟨0, Nat.zero_le _, rfl, Fill.start _ _ _⟩
      case round =>
        obtain ⟨q, hq, rfl, hfill⟩ := hrel
        have hgsz := hfill.1.lt
        by_cases hlt2 : q < n0
        · have hb0 : Below B w wr := (HW.out.mono hB).trans (hfill.2.mono (by omega))
          obtain ⟨b, off, rfl, hbB, hc⟩ := (H0.out.later hb0) q hlt2
          have hcg := hfill.1.cell hlt2
          have hfg := hfill.1.frozen q
          have hbx2 : ∀ v, (wr.setCell ⟨w2.heap.size, q, none⟩ v).cell? ⟨w.heap.size, 2, none⟩ = some (.slice a4 k c4) := fun v => ((hfill.2.setCell (p := ⟨w2.heap.size, q, none⟩) (Nat.le_refl _) v).cell (p := ⟨w.heap.size, 2, none⟩) (by simp; omega)).trans hbx
          obtain ⟨hj1, hj2⟩ := HJ.out q hlt2
          have HF : Hid (Fill w2 wr w2.heap.size n0 (newj j r n k) q) := hfill
          by_cases hbig : (n : Int) + k ≤ j q
          · obtain ⟨t, ht⟩ : ∃ t : Nat, j q = n + k + t := ⟨(j q - n - k).toNat, by omega⟩
            have htl : t < (negl r k).length := by have := HP.out q hlt2 hbig; rw [negl_len]; omega
            have hO := HN.out.1
            obtain ⟨gn, cap, hv, hgn, hgl⟩ : ∃ gn cap, u7 = .slice (some ⟨gn, 0, none⟩) (negl r k).length cap ∧ w.heap.size + 1 ≤ gn ∧ gn < w2.heap.size := by
              rcases hO.2 with ⟨_, h0⟩ | ⟨gn, cap, cur, hv, hgn, hh, _⟩
              · omega
              · exact ⟨gn, cap, hv, hgn, (Array.getElem?_eq_some_iff.1 hh).1⟩
            subst hv
            have hx := negl_at r k t htl
            have hcn : w2.cell? ⟨gn, t, none⟩ = some (.int .i64 ((negl r k).getD t 0 : Nat)) := by rw [hO.cellAt t (by omega)]; simpa using hx
            have hcN : ∀ v, (wr.setCell ⟨w2.heap.size, q, none⟩ v).cell? ⟨gn, t, none⟩ = some (.int .i64 ((negl r k).getD t 0 : Nat)) := fun v => ((hfill.2.setCell (p := ⟨w2.heap.size, q, none⟩) (Nat.le_refl _) v).cell (p := ⟨gn, t, none⟩) (by simp; omega)).trans hcn
            have HE : Hid (newj j r n k q = n + ((negl r k).getD t 0 : Nat)) := by
              unfold Hid newj; rw [if_pos hbig]; congr 3; omega
            have hyl := negl_lt r k t
            generalize (negl r k).getD t 0 = y at *
            have he : ((n : Int) + k + t - n - k) = t := by omega
            clear hfill hb0 hO hx hcn
            go_wp2
            go_roundw
            case rel => exact ⟨q + 1, by omega, by go_num, HF.out.put2 _ _ HE.out⟩
            case measure => simp [intOf]; omega
          · have HE : Hid (newj j r n k q = j q) := by unfold Hid newj; rw [if_neg hbig]
            clear hfill hb0
            go_wp2
            go_roundw
            case rel => exact ⟨q + 1, by omega, by go_num, HF.out.put _ HE.out⟩
            case measure => simp [intOf]; omega
        · obtain rfl : q = n0 := by omega
          have hp7' : wr.cell? ⟨p, 7, none⟩ = some (.slice a1 n1 c1) := (hfill.2.cell (p := ⟨p, 7, none⟩) (by simp; omega)).trans hq7
          have hrow : wr.rowIs w2.heap.size 3 q (fun i => .int .i64 (newj j r n k i)) := hfill.1.congr fun i hi => by rw [if_pos hi]
          have hbel : Below w.heap.size w wr := HW.out.trans (hfill.2.mono (by omega))
          have hnc' : n ≤ c1 := by omega
          have HR : Hid (wr.rowIs w2.heap.size 3 q (fun i => .int .i64 (newj j r n k i))) := hrow
          have HL : Hid (Below w.heap.size w wr) := hbel
          clear hfill hrow hbel
          go_wp2
          go_quiet (fail)
          go_wp2
          go_ret2
          exact ⟨_, rfl, by omega, HR.out, below_drewN HL.out nq⟩

set_option maxHeartbeats 400000 in
theorem zzstart_any (B : Nat) (a0 a1 a2 a3 a4 a5 : Option Addr) (n0 c0 n1 c1 n c2 n3 c3 m c4 n5 c5 : Nat) (j : Nat → Int) (r : Nat → Nat) (w : World)
    (hB : B ≤ w.heap.size)
    (hn0 : n0 ≤ 1048576) (hn : n ≤ 1048576) (hm : m ≤ 1048576) (hn1 : n ≤ n1) (hnc : n1 ≤ c1) (hj : ∀ i, i < n0 → -9223372036854775808 ≤ j i ∧ j i ≤ 9223372036854775807)
    (hpr : ∀ i, i < n0 → (n : Int) + m ≤ j i → j i - (n + m) < cnt r m)
    (h0 : Sl B w a0 n0 (fun i => .int .i64 (j i))) (h4 : Sl B w a4 m (fun i => .float .f64 (r i))) :
    Calls Try.prog 8 #[.slice a0 n0 c0, .slice a1 n1 c1, .slice a2 n c2, .slice a3 n3 c3, .slice a4 m c4, .slice a5 n5 c5] w fun e w' => StartE w j r n0 n m a1 c1 e w' := by
  have H0 : Hid (Sl B w a0 n0 (fun i => .int .i64 (j i))) := h0
  have H4 : Hid (Sl B w a4 m (fun i => .float .f64 (r i))) := h4
  have HJ : Hid (∀ i, i < n0 → -9223372036854775808 ≤ j i ∧ j i ≤ 9223372036854775807) := hj
  have HP : Hid (∀ i, i < n0 → (n : Int) + m ≤ j i → j i - (n + m) < cnt r m) := hpr
  clear h0 h4 hj hpr
  go_enter Try.func8, Try.ntmps8
  go_wp2_with fail
  refine (start_any B w.heap.size a0 a1 a2 a4 n0 c0 n1 c1 n c2 m c4 _ _ j r _ ?_ ?_ ?_ ?_ hn0 hn hm hn1 hnc HJ.out HP.out ?_ ?_).mono ?_
  · simp; omega
  · simp
  · simp
  · simp
  · exact H0.out.later ((Below.refl _ _).alloc hB _)
  · exact H4.out.later ((Below.refl _ _).alloc hB _)
  rintro e w' ⟨g, rfl, hg, hrow, hbel⟩
  have HR : Hid (w'.rowIs g 3 n0 (fun i => .int .i64 (newj j r n m i))) := hrow
  have HL : Hid (Below w.heap.size w w') := ((Below.refl w.heap.size w).alloc (Nat.le_refl _) _).trans (hbel.mono (by simp))
  have hg' : w.heap.size ≤ g := by simp at hg; omega
  clear hrow hbel hg
  go_wp2
  go_ret2
  exact ⟨_, rfl, hg', HR.out, HL.out⟩
end Go.Proofs.Qxb6619410a
