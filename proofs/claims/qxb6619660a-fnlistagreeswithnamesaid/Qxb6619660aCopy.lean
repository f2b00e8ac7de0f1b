/-
  A law for 'zzc := make([]T, len(x)); copy(zzc, x)'.
-/
import Derived.Test.Qxb6619660aName
import Derived.Laws.CopyOwn
namespace Go.Proofs.Qxb6619660a
open Go.ChangeShapes Go.WideShapes Go.ChangeAt Go.RowKit

theorem madeCells_list (z : Value) (n : Nat) : madeCells #[z] n = (List.replicate n z).toArray := by
  apply Array.toList_inj.1
  rw [toList_madeCells_one]

theorem sl_of_block {w : World} {g n : Nat} {f : Nat → Value} {t : TypeId} (h : w.heap[g]? = some (.cells ((List.range n).map f).toArray t (0, 0))) : Sl w.heap.size w (some ⟨g, 0, none⟩) n f := by
  intro i hi
  refine ⟨g, 0, rfl, (Array.getElem?_eq_some_iff.1 h).1, ?_⟩
  simp [World.cell?, h, hi]

theorem copy_run {P : Program} (W : World) (dT sT ty elem : TypeId) (hu : P.underlying dT = some (.slice elem)) (hsz : (P.info? elem).map (·.size) = some 1) (z : Value) (n : Nat) (sa : Option Addr) (cs : Nat)
    (f : Nat → Value) (hS : Sl W.heap.size W sa n f) (h1 : ∀ i, (f i).oneCell' = true) :
    ∃ w1, (Builtin.copy_ #[dT, sT] ty #[.slice (some ⟨W.heap.size, 0, none⟩) n n, .slice sa n cs]).run P (W.alloc (.cells (madeCells #[z] n) elem)) = .ok (.int .i64 (n : Int)) w1 ∧
      Hid (Sl w1.heap.size w1 (some ⟨W.heap.size, 0, none⟩) n f) ∧ Hid (Below W.heap.size W w1) := by
  have hB : Below W.heap.size W (W.alloc (.cells (madeCells #[z] n) elem)) := (Below.refl _ _).alloc (Nat.le_refl _) _
  by_cases h0 : n = 0
  · subst h0
    refine ⟨_, run_copy_none _ dT sT ty elem _ _ _ _ _ _ hu hsz rfl, fun i hi => absurd hi (Nat.not_lt_zero _), hB⟩
  · have hl : ((List.range n).map f).length = n := by simp
    obtain ⟨b, off, rfl, hb, _⟩ := hS 0 (by omega)
    have hrun := run_copy_row (P := P) (W.alloc (.cells (madeCells #[z] n) elem)) dT sT ty elem W.heap.size 0 n n ⟨b, off, none⟩ n cs (madeCells #[z] n) elem ((List.range n).map f) hu hsz (heap_alloc_new _ _)
      (by rw [hl]; exact (Nat.min_self n).symm) (fun j v hj => by
        have hjn : j < n := by
          have := (List.getElem?_eq_some_iff.1 hj).1
          simpa using this
        obtain ⟨b', off', e, hb', hc⟩ := hS j hjn
        simp only [Option.some.injEq, Addr.mk.injEq, and_true] at e
        obtain ⟨rfl, rfl⟩ := e
        have ev : v = f j := by
          rw [List.getElem?_map, List.getElem?_range hjn] at hj
          simpa using hj.symm
        subst ev
        rw [add_plain]
        exact (hB.cell (p := ⟨b, off + j, none⟩) hb).trans hc) (by rw [hl, madeCells_list]; simp) (fun v hv => by
        obtain ⟨i, _, rfl⟩ := List.mem_map.1 hv
        exact h1 i)
    refine ⟨_, by rw [hrun, hl]; rfl, ?_, below_setRow hB (Nat.le_refl _) _⟩
    refine sl_of_block (t := elem) ?_
    have e : ((madeCells #[z] n).toList.take 0 ++ (List.range n).map f ++ (madeCells #[z] n).toList.drop (0 + n)) = (List.range n).map f := by
      rw [madeCells_list]; simp
    rw [e]
    unfold World.setRow
    simp only
    rw [Array.getElem?_modify, if_pos rfl, heap_alloc_new]
    rfl


theorem Try.info9 : (Try.prog.info? 9).map (fun i => (i.zero, i.size, i.bytes)) = some (some (.string ⟨#[]⟩), 1, 16) := by kernel_rfl
theorem Try.size9 : (Try.prog.info? 9).map (·.size) = some 1 := by kernel_rfl

/-- Block g, a row of m strings, holds F below q and the empty string from there on; below g all is as in wr. -/
def Fill (wr wx : World) (g m : Nat) (F : Nat → ByteArray) (q : Nat) : Prop := wx.rowIs g 9 m (fun i => .string (if i < q then F i else ⟨#[]⟩)) ∧ Below g wr wx
theorem Fill.start (wr : World) (m : Nat) (F : Nat → ByteArray) : Fill wr (wr.alloc (.cells (madeCells #[.string ⟨#[]⟩] m) 9)) wr.heap.size m F 0 :=
  ⟨(World.rowIs_made wr (.string ⟨#[]⟩) m 9).congr fun i _ => by simp, (Below.refl _ _).alloc (Nat.le_refl _) _⟩
theorem Fill.put {wr wx : World} {g m : Nat} {F : Nat → ByteArray} {q : Nat} (h : Fill wr wx g m F q) (x : ByteArray) (hx : F q = x) : Fill wr (wx.setCell ⟨g, q, none⟩ (.string x)) g m F (q + 1) := by
  refine ⟨(h.1.set q (.string x)).congr fun i _ => ?_, h.2.setCell (p := ⟨g, q, none⟩) (Nat.le_refl _) _⟩
  by_cases e : i = q
  · subst e; simp [hx]
  · simp only [e, if_false]
    by_cases e2 : i < q
    · rw [if_pos e2, if_pos (by omega)]
    · rw [if_neg e2, if_neg (by omega)]
theorem Fill.sl {wr wx : World} {g m : Nat} {F : Nat → ByteArray} (h : Fill wr wx g m F m) : Sl wx.heap.size wx (some ⟨g, 0, none⟩) m (fun i => .string (F i)) := by
  intro i hi
  refine ⟨g, 0, rfl, h.1.lt, ?_⟩
  have := h.1.cell hi
  rw [if_pos hi] at this
  simpa using this

end Go.Proofs.Qxb6619660a
