/-
  The reading of a slice of strings that came in, by its cells.
-/
import Derived.Test.Qxb6619660aBase
import Derived.Deep.Slices
namespace Go.Proofs.Qxb6619660a
open Go.ChangeShapes Go.WideShapes Go.ChangeAt Go.RowKit
section
variable {H : Type} {enc : TypeId × Value → H} {P : Program} {w : World}

/-- A slice that came in, of elements of one cell: its cells. -/
theorem open_sl {t e : TypeId} {a : Option Addr} {len cap : Nat} {d : DataW H} {p : List MemPlace} (ht : P.underlying t = some (.slice e)) (hc : P.cellsOf e = 1)
    (h : DataW.Trod enc P w 0 (fun _ => true) true t (.slice a len cap) d p) :
    len ≤ cap ∧ len ≤ maxLen ∧ ∃ V : Nat → Value, Sl w.heap.size w a len V ∧ ∀ i, i < len → ∃ n x, DataW.trod enc P w 0 (fun _ => true) true n e [V i] = some x := by
  obtain ⟨fuel, hf⟩ := h
  rcases Deep.open_slice1 ht hc hf with ⟨hcs, _⟩ | ⟨x, l, c, m, n, V, D, Pl, hcs, _, hl, hm, hmm, _, hcell⟩
  · simp [Value.cells] at hcs
    obtain ⟨rfl, rfl, rfl⟩ := hcs
    exact ⟨Nat.le_refl _, Nat.zero_le _, fun _ => undef, fun i hi => absurd hi (Nat.not_lt_zero _), fun i hi => absurd hi (Nat.not_lt_zero _)⟩
  · simp [Value.cells] at hcs
    obtain ⟨rfl, rfl, rfl⟩ := hcs
    simp only [if_true] at hmm
    subst hmm
    refine ⟨hl, Nat.le_trans hl hm, V, fun i hi => ?_, fun i hi => ⟨n, _, (hcell i (by omega)).2⟩⟩
    obtain ⟨b, off, spot⟩ := x
    have h1 := (hcell i (by omega)).1
    have hspot : spot = none := by simpa [Addr.add] using World.cell?_spot (hcell 0 (by omega)).1
    subst hspot
    rw [add_plain] at h1
    refine ⟨b, off, rfl, ?_, h1⟩
    exact block_lt_of_cell h1

theorem open_sl_string {t e : TypeId} {a : Option Addr} {len cap : Nat} {d : DataW H} {p : List MemPlace} (ht : P.underlying t = some (.slice e)) (hc : P.cellsOf e = 1) (he : P.underlying e = some .string)
    (h : DataW.Trod enc P w 0 (fun _ => true) true t (.slice a len cap) d p) :
    len ≤ cap ∧ len ≤ maxLen ∧ ∃ S : Nat → ByteArray, Sl w.heap.size w a len (fun i => .string (S i)) ∧ ∀ i, i < len → (S i).size ≤ maxLen := by
  obtain ⟨h1, h2, V, hS, hV⟩ := open_sl ht hc h
  obtain ⟨j, hj⟩ := Deep.choose_lt (α := ByteArray) (p := fun i x => V i = .string x ∧ x.size ≤ maxLen) (fun i hi => by
    obtain ⟨n, x, hx⟩ := hV i hi
    obtain ⟨z, hz, _, hw⟩ := DataW.trod_string he hx
    simp at hz
    exact ⟨z, hz, hw⟩)
  exact ⟨h1, h2, j, hS.congr fun i hi => (hj i hi).1, fun i hi => (hj i hi).2⟩
end
end Go.Proofs.Qxb6619660a
