/-
  The list of the names: valueNames.list and its wrapper.
-/
import Derived.Test.Qxb6619660aCopy
import Derived.Test.Qxb6619660aShelf
namespace Go.Proofs.Qxb6619660a
open Go.ChangeShapes Go.WideShapes Go.ChangeAt Go.RowKit

/-- Of the first k names those that are not empty. -/
def nmd (S : Nat → ByteArray) : Nat → List ByteArray
  | 0 => []
  | k + 1 => nmd S k ++ if (S k).toList.isEmpty then [] else [S k]
/-- Strings joined by a comma and a blank, as bytes. -/
def jl (xs : List ByteArray) : List UInt8 := Lib.join (xs.map (·.data.toList)) [44, 32]
/-- The list of the first n names, as the Go text gives it. -/
def jn (S : Nat → ByteArray) (n : Nat) : ByteArray := ⟨(jl (nmd S n)).toArray⟩

theorem nmd_no (S : Nat → ByteArray) (k : Nat) (h : (S k).toList.isEmpty = true) : nmd S (k + 1) = nmd S k := by simp only [nmd, h]; simp
theorem nmd_yes (S : Nat → ByteArray) (k : Nat) (h : (S k).toList.isEmpty = false) : nmd S (k + 1) = nmd S k ++ [S k] := by simp only [nmd, h]; simp
theorem nmd_len (S : Nat → ByteArray) (k : Nat) : (nmd S k).length ≤ k := by
  induction k with
  | zero => simp [nmd]
  | succ k ih =>
    cases h : (S k).toList.isEmpty
    · rw [nmd_yes S k h]; simp; omega
    · rw [nmd_no S k h]; omega
theorem nmd_lens (S : Nat → ByteArray) (k : Nat) : Lib.lens ((nmd S k).map (·.data.toList)) ≤ tot S k := by
  induction k with
  | zero => simp [nmd, Lib.lens, tot]
  | succ k ih =>
    cases h : (S k).toList.isEmpty
    · rw [nmd_yes S k h]
      simp only [Lib.lens, List.map_append, List.sum_append, tot, List.map_cons, List.map_nil, List.sum_cons, List.sum_nil] at ih ⊢
      have e : (S k).data.toList.length = (S k).size := (Lib.size_eq (S k)).symm
      omega
    · rw [nmd_no S k h]; simp only [tot]; omega
theorem jl_len (xs : List ByteArray) : (jl xs).length ≤ Lib.lens (xs.map (·.data.toList)) + 2 * xs.length := by
  cases xs with
  | nil => simp [jl, Lib.join_nil]
  | cons x r =>
    unfold jl
    rw [List.map_cons, Lib.join_length]
    simp
    omega

/-- The loop's state: what is gathered so far. -/
def Gath (wb : World) (B : Nat) (S : Nat → ByteArray) (k : Nat) (v : Value) (wr : World) : Prop :=
  wr.ownsRow B 9 1 v (nmd S k).length ((nmd S k).map Value.string) ∧ Below B wb wr
theorem Gath.start (wb : World) (B : Nat) (S : Nat → ByteArray) : Gath wb B S 0 (.slice none 0 0) wb := ⟨World.ownsRow_nil _ _ _ _, Below.refl _ _⟩
theorem Gath.skip {wb wr : World} {B : Nat} {S : Nat → ByteArray} {k : Nat} {v : Value} (h : Gath wb B S k v wr) (e : (S k).toList.isEmpty = true) : Gath wb B S (k + 1) v wr := by
  unfold Gath; rw [nmd_no S k e]; exact h
theorem Gath.add {wb wr w1 : World} {B : Nat} {S : Nat → ByteArray} {k : Nat} {v v' : Value} {o : Obj} (h : Gath wb B S k v wr) (hB : B ≤ wr.heap.size) (e : (S k).toList.isEmpty = false)
    (hown : w1.ownsRow B 9 1 v' ((nmd S k).length + 1) (((nmd S k).map Value.string) ++ [.string (S k)])) (hg : (wr.alloc o).grownBy w1 v.ownBlock) : Gath wb B S (k + 1) v' w1 := by
  unfold Gath; rw [nmd_yes S k e]
  refine ⟨by simpa using hown, ?_⟩
  refine (h.2.alloc hB o).grown hg (by simp; omega) ?_
  intro g hgk
  rcases h.1.2 with ⟨rfl, _⟩ | ⟨g', cap, cur, rfl, hg', _⟩
  · simp [Value.ownBlock] at hgk
  · simp [Value.ownBlock] at hgk; omega

set_option maxHeartbeats 1000000 in
theorem list_any (B p : Nat) (a : Option Addr) (n c : Nat) (hn : n ≤ 1048576) (S : Nat → ByteArray) (ht : tot S n ≤ 1048576) (w : World) (hB : B ≤ w.heap.size)
    (hp : w.cell? ⟨p, 2, none⟩ = some (.slice a n c)) (hS : Sl B w a n (fun i => .string (S i))) :
    Calls Try.prog 13 #[.pointer (some ⟨p, 0, none⟩)] w fun e w' => e = .returned (.string (jn S n)) ∧ Below w.heap.size w w' := by
  have HS : Hid (Sl B w a n (fun i => .string (S i))) := hS
  have HT : Hid (tot S n ≤ 1048576) := ht
  clear hS ht
  obtain ⟨i0, hi, hz0, hz1, hz2⟩ := info_parts Try.info9
  go_enter Try.func13, Try.ntmps13
  go_wp2
  go_loopw [3, 11] (fun v i wr => ∃ k : Nat, k ≤ n ∧ i = .int .i64 k ∧ Gath w w.heap.size S k v wr) (fun _ i _ => n - (intOf i).toNat)
  case atStart => exact ⟨0, Nat.zero_le _, rfl, Gath.start _ _ _⟩
  case round =>
    obtain ⟨k, hk, rfl, hg⟩ := hrel
    have hcl := nmd_len S k
    have hsz : w.heap.size ≤ wr.heap.size := hg.2.size
    by_cases hlt : k < n
    · obtain ⟨b, off, rfl, _, hc⟩ := (HS.out.later (hg.2.mono hB)) k hlt
      cases hf : (S k).toList.isEmpty
      · have HN : Hid (Gath w w.heap.size S k u3 wr) := hg
        have hO := HN.out.1
        clear hg
        go_wp2_with (at_builtin; refine wpList_append_own _ rfl _ _ 22 rfl w.heap.size 9 i0 (.string ⟨#[]⟩) 1 16 Try.underlying22 hi hz0 hz1 hz2 rfl (by decide) _ _ _ rfl (hO.alloc _) ⟨wr.heap.size, 0, none⟩ 1 1 [.string (S k)] rfl rfl ?c1 ?c2 ?c3 ?c4 ?c5 ?_)
        case c2 => rfl
        case c3 => unfold maxLen; omega
        case c4 => omega
        case c5 => omega
        intro v' w1 hown' hgrow _
        have R := HN.out.add hsz hf hown' hgrow
        clear hown' hgrow hO
        go_wp2
        go_roundw
        case rel => exact ⟨k + 1, by omega, by go_num, R⟩
        case measure => simp [intOf]; omega
      · have HN := hg.skip hf
        clear hg
        go_wp2
        go_roundw
        case rel => exact ⟨k + 1, by omega, by go_num, HN⟩
        case measure => simp [intOf]; omega
    · obtain rfl : k = n := by omega
      have hO := hg.1
      have HB : Hid (Below w.heap.size w wr) := hg.2
      have hlen : (jl (nmd S k)).length ≤ 140737488355328 := by
        have h1 := jl_len (nmd S k)
        have h2 := nmd_lens S k
        have h3 := HT.out
        omega
      clear hg
      by_cases h0 : (nmd S k).length = 0
      · obtain ⟨a', c', hv⟩ : ∃ a' c', u3 = .slice a' 0 c' := by
          rcases hO.2 with ⟨hv, _⟩ | ⟨g, cap, cur, hv, _⟩
          · exact ⟨_, _, hv⟩
          · rw [h0] at hv; exact ⟨_, _, hv⟩
        have HE : Hid (jn S k = ⟨#[]⟩) := by
          unfold Hid jn
          rw [List.eq_nil_of_length_eq_zero h0]
          rfl
        clear hlen hO h0
        subst hv
        go_wp2_with fail
        refine (Try.strings_Join_none a' c' _ _).mono ?_
        rintro e w' ⟨rfl, hw⟩
        obtain rfl := hw.symm
        go_wp2
        go_ret
        rw [HE.out]
        exact ⟨rfl, HB.out⟩
      · obtain ⟨g, cap, hv, hgl, hcap⟩ : ∃ g cap, u3 = .slice (some ⟨g, 0, none⟩) (nmd S k).length cap ∧ g < wr.heap.size ∧ (nmd S k).length ≤ cap := by
          rcases hO.2 with ⟨_, e⟩ | ⟨g, cap, cur, hv, _, hh, hcap, _⟩
          · exact absurd e h0
          · exact ⟨g, cap, hv, (Array.getElem?_eq_some_iff.1 hh).1, hcap⟩
        subst hv
        have hcells : Hid (∀ (j : Nat) x, (nmd S k)[j]? = some x → wr.cell? ⟨g, 0 + j, none⟩ = some (.string x)) := fun j x hj => by
          have hjl : j < (nmd S k).length := (List.getElem?_eq_some_iff.1 hj).1
          rw [Nat.zero_add, hO.cellAt j (by omega), List.getElem?_map, hj]; rfl
        have HLn : Hid ((jl (nmd S k)).length ≤ 140737488355328) := hlen
        clear hO h0 hlen
        go_wp2_with fail
        refine (Try.strings_Join g 0 cap (nmd S k) ⟨#[44, 32]⟩ _ hcells.out hgl (by omega) hcap HLn.out).mono ?_
        rintro e w' ⟨rfl, hbel⟩
        have HB2 : Hid (Below w.heap.size w w') := HB.out.trans (hbel.mono hsz)
        clear hbel
        go_wp2
        go_ret
        exact ⟨rfl, HB2.out⟩

set_option maxHeartbeats 400000 in
theorem zzlist_any (B : Nat) (s0 : ByteArray) (m : Int) (a : Option Addr) (n c : Nat) (hn : n ≤ 1048576) (S : Nat → ByteArray) (ht : tot S n ≤ 1048576) (w : World) (hB : B ≤ w.heap.size)
    (hS : Sl B w a n (fun i => .string (S i))) :
    Calls Try.prog 8 #[.string s0, .int .u8 m, .slice a n c] w fun e w' => e = .returned (.string (jn S n)) ∧ Below w.heap.size w w' := by
  have HS : Hid (Sl B w a n (fun i => .string (S i))) := hS
  clear hS
  go_enter Try.func8, Try.ntmps8
  go_wp2_with fail
  refine (list_any B w.heap.size a n c hn S ht _ ?_ ?_ ?_).mono ?_
  · simp; omega
  · simp
  · exact HS.out.later ((Below.refl _ _).alloc hB _)
  rintro e w' ⟨rfl, hbel⟩
  have HL : Hid (Below w.heap.size w w') := ((Below.refl w.heap.size w).alloc (Nat.le_refl _) _).trans (hbel.mono (by simp))
  clear hbel
  go_wp2
  go_ret
  exact ⟨rfl, HL.out⟩
end Go.Proofs.Qxb6619660a
