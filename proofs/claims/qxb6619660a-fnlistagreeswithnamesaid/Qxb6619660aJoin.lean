/-
  The law FnListJoinsAtAnyCut: the plain law, the walk.
-/
import Derived.Test.Qxb6619660aList
import Derived.Deep.DeepCutAuto
namespace Go.Proofs.Qxb6619660a
open Go.ChangeShapes Go.WideShapes Go.ChangeAt Go.RowKit

/-! ### The plain law -/
theorem nmd_split (S : Nat → ByteArray) (i k : Nat) : nmd S (i + k) = nmd S i ++ nmd (fun t => S (i + t)) k := by
  induction k with
  | zero => simp [nmd]
  | succ k ih =>
    show nmd S (i + k + 1) = _
    simp only [nmd]
    rw [ih, List.append_assoc]
theorem nmd_ne (S : Nat → ByteArray) (k : Nat) : ∀ x ∈ nmd S k, x.data.toList ≠ [] := by
  induction k with
  | zero => simp [nmd]
  | succ k ih =>
    intro x hx
    cases h : (S k).toList.isEmpty
    · rw [nmd_yes S k h] at hx
      rcases List.mem_append.1 hx with hx | hx
      · exact ih x hx
      · simp at hx; subst hx
        intro e
        rw [ByteArray.toList_eq, e] at h
        simp at h
    · rw [nmd_no S k h] at hx; exact ih x hx
theorem joinTail_append (sep : List UInt8) (r q : List (List UInt8)) : Lib.joinTail sep (r ++ q) = Lib.joinTail sep r ++ Lib.joinTail sep q := by simp [Lib.joinTail]
theorem join_append (sep : List UInt8) (x : List UInt8) (r : List (List UInt8)) (y : List UInt8) (q : List (List UInt8)) :
    Lib.join ((x :: r) ++ (y :: q)) sep = Lib.join (x :: r) sep ++ sep ++ Lib.join (y :: q) sep := by
  rw [List.cons_append, Lib.join_cons, Lib.join_cons, Lib.join_cons, joinTail_append]
  simp [Lib.joinTail, List.append_assoc]
/-- Two lists joined: an empty one is no list. -/
def j2 (a b : ByteArray) : ByteArray := if a.toList.isEmpty then b else if b.toList.isEmpty then a else a ++ ⟨#[44, 32]⟩ ++ b
theorem j2_empty : j2 ⟨#[]⟩ ⟨#[]⟩ = ⟨#[]⟩ := by unfold j2; rw [if_pos (by rw [ByteArray.toList_eq]; rfl)]
theorem jl_nil (xs : List ByteArray) (h : ∀ x ∈ xs, x.data.toList ≠ []) : (jl xs) = [] ↔ xs = [] := by
  cases xs with
  | nil => simp [jl, Lib.join_nil]
  | cons x r =>
    have := h x (by simp)
    simp [jl, Lib.join_cons, this]
theorem jn_empty (S : Nat → ByteArray) (n : Nat) : (jn S n).toList.isEmpty = true ↔ nmd S n = [] := by
  rw [ByteArray.toList_eq, ← jl_nil _ (nmd_ne S n)]
  simp [jn]
theorem cut_law (S : Nat → ByteArray) (i k : Nat) : j2 (jn S i) (jn (fun t => S (i + t)) k) = jn S (i + k) := by
  unfold j2
  by_cases h1 : nmd S i = []
  · rw [if_pos ((jn_empty S i).2 h1)]
    unfold jn
    rw [nmd_split, h1, List.nil_append]
  · rw [if_neg (fun h => h1 ((jn_empty S i).1 h))]
    by_cases h2 : nmd (fun t => S (i + t)) k = []
    · rw [if_pos ((jn_empty _ k).2 h2)]
      unfold jn
      rw [nmd_split, h2, List.append_nil]
    · rw [if_neg (fun h => h2 ((jn_empty _ k).1 h))]
      refine bytes_inj ?_
      unfold jn
      rw [nmd_split]
      obtain ⟨x, r, hx⟩ := List.exists_cons_of_ne_nil h1
      obtain ⟨y, q, hy⟩ := List.exists_cons_of_ne_nil h2
      rw [hx, hy]
      unfold jl
      rw [List.map_append, List.map_cons, List.map_cons, join_append]
      simp
theorem jn_one (s : ByteArray) : jn (fun _ => s) 1 = s := by
  refine bytes_inj ?_
  unfold jn
  cases h : s.toList.isEmpty
  · rw [nmd_yes (fun _ => s) 0 h]
    simp [nmd, jl, Lib.join_one]
  · rw [nmd_no (fun _ => s) 0 h, empty_of h]
    simp [nmd, jl, Lib.join_nil]
theorem jn_zero (S : Nat → ByteArray) : jn S 0 = ⟨#[]⟩ := rfl
theorem tot_mono (S : Nat → ByteArray) {i n : Nat} (h : i ≤ n) : tot S i ≤ tot S n := by
  induction n with
  | zero => have : i = 0 := by omega
            subst this; exact Nat.le_refl _
  | succ n ih =>
    by_cases e : i = n + 1
    · subst e; exact Nat.le_refl _
    · have := ih (by omega); simp only [tot]; omega
theorem tot_split (S : Nat → ByteArray) (i k : Nat) : tot S (i + k) = tot S i + tot (fun t => S (i + t)) k := by
  induction k with
  | zero => simp [tot]
  | succ k ih =>
    show tot S (i + k + 1) = _
    simp only [tot]
    omega
theorem jn_size (S : Nat → ByteArray) (n : Nat) : (jn S n).size ≤ tot S n + 2 * n := by
  have h1 := jl_len (nmd S n)
  have h2 := nmd_lens S n
  have h3 := nmd_len S n
  have e : (jn S n).size = (jl (nmd S n)).length := by rw [Lib.size_eq]; simp [jn]
  omega

/-! ### The walk -/
set_option maxHeartbeats 400000 in
theorem join2_any (a b : ByteArray) (ha : a.size ≤ 1073741824) (hb : b.size ≤ 1073741824) (w : World) :
    Calls Try.prog 9 #[.string a, .string b] w fun e w' => e = .returned (.string (j2 a b)) ∧ w' = w := by
  cases h1 : a.toList.isEmpty
  · cases h2 : b.toList.isEmpty
    · have HE : Hid (j2 a b = a ++ ⟨#[44, 32]⟩ ++ b) := by unfold Hid j2; rw [h1, h2]; rfl
      go_enter Try.func9, Try.ntmps9
      go_wp2
      go_ret
      rw [HE.out]
      exact ⟨rfl, rfl⟩
    · have HE : Hid (j2 a b = a) := by unfold Hid j2; rw [h1, h2]; rfl
      go_enter Try.func9, Try.ntmps9
      go_wp2
      go_ret
      rw [HE.out]
      exact ⟨rfl, rfl⟩
  · have HE : Hid (j2 a b = b) := by unfold Hid j2; rw [h1]; rfl
    go_enter Try.func9, Try.ntmps9
    go_wp2
    go_ret
    rw [HE.out]
    exact ⟨rfl, rfl⟩

/-- A nil slice has no element and no room. -/
def NilOk (a : Option Addr) (n c : Nat) : Prop := a = none → n = 0 ∧ c = 0
/-- The names behind the copy: nil still, or a new row. -/
def Shape (a : Option Addr) (n c : Nat) : Prop := (a = none ∧ n = 0 ∧ c = 0) ∨ ∃ g, a = some ⟨g, 0, none⟩ ∧ c = n
theorem make_one (w : World) : (Instr.makeSlice 22 (.int .i64 1) (.int .i64 1)).run Try.prog w = .ok (.slice (some ⟨w.heap.size, 0, none⟩) 1 1) (w.alloc (.cells #[.string ⟨#[]⟩] 9)) := by
  have h := run_make_row' (P := Try.prog) 22 9 (.string ⟨#[]⟩) 16 Try.underlying22 Try.info9 rfl .i64 .i64 1 (by omega) (by omega) w
  rw [madeCells_list] at h
  exact h
theorem sl_one (w : World) (x : ByteArray) : Sl (w.alloc (.cells #[.string x] 9)).heap.size (w.alloc (.cells #[.string x] 9)) (some ⟨w.heap.size, 0, none⟩) 1 (fun _ => .string x) := by
  intro i hi
  obtain rfl : i = 0 := by omega
  exact ⟨w.heap.size, 0, rfl, by simp, by simp⟩
def FinJ (w : World) (e : Ending) (w' : World) : Prop := e = .returned (.bool true) ∧ Below w.heap.size w w'
theorem Sl.take {B : Nat} {w : World} {a : Option Addr} {n i : Nat} {f : Nat → Value} (h : Sl B w a n f) (hi : i ≤ n) : Sl B w a i f := fun t ht => h t (by omega)
theorem Sl.drop {B : Nat} {w : World} {g n i : Nat} {f : Nat → Value} (h : Sl B w (some ⟨g, 0, none⟩) n f) : Sl B w (some ⟨g, i, none⟩) (n - i) (fun t => f (i + t)) := by
  intro t ht
  obtain ⟨b, off, e, hb, hc⟩ := h (i + t) (by omega)
  simp only [Option.some.injEq, Addr.mk.injEq, and_true] at e
  obtain ⟨rfl, rfl⟩ := e
  exact ⟨g, i, rfl, hb, by simpa using hc⟩

set_option maxRecDepth 100000 in
set_option maxHeartbeats 1000000 in
theorem join_any (s0 x : ByteArray) (k0 p : Int) (a : Option Addr) (n c : Nat) (S : Nat → ByteArray) (w : World) (hn : n ≤ maxLen) (hnil : NilOk a n c)
    (hS : Sl w.heap.size w a n (fun i => .string (S i))) :
    Calls Try.prog 3 #[.string s0, .int .u8 k0, .slice a n c, .int .i64 p, .string x] w fun e w' => FinJ w e w' := by
  have HS : Hid (Sl w.heap.size w a n (fun i => .string (S i))) := hS
  clear hS
  go_enter Try.func3, Try.ntmps3
  go_wp2_with fail
  refine (bytes6_any w.heap.size s0 x _ _ a n c hn S _ HS.out).mono ?_
  rintro e w' ⟨hb, hw⟩
  obtain rfl := hw.symm
  rcases hb with rfl | ⟨rfl, htot⟩
  · go_wp2
    go_ret
    exact ⟨rfl, Below.refl _ _⟩
  go_wp2_with fail
  all_goals first | (go_ret; exact ⟨rfl, Below.refl _ _⟩) | skip
  have bn : n ≤ 65536 := by omega
  have bx : x.size ≤ 65536 := by omega
  have hz : ∀ i, i < n → (S i).size ≤ 1048576 := fun i hi => by have := tot_le S hi; omega
  have HT : Hid (tot S n ≤ 1048576) := htot
  refine (many_any _ (by omega) w.heap.size a n c hn S hz _ HS.out).mono ?_
  rintro e w' ⟨⟨b, rfl⟩, hw⟩
  obtain rfl := hw.symm
  clear hz htot
  cases b
  rotate_left
  · go_wp2
    go_ret
    exact ⟨rfl, Below.refl _ _⟩
  by_cases hp0 : p < 0
  · go_wp2
    go_ret
    exact ⟨rfl, Below.refl _ _⟩
  obtain ⟨P, rfl⟩ := Int.eq_ofNat_of_zero_le (show 0 ≤ p by omega)
  have hd0 : decide ((P : Int) < 0) = false := by simp
  by_cases hpn : n < P
  · go_wp2
    go_ret
    exact ⟨rfl, Below.refl _ _⟩
  have hd1 : decide (n < P) = false := by simp; omega
  have hn22 := fun (w : World) (a : Option Addr) (n c : Nat) => run_neq_slice_nil_any (P := Try.prog) w 22 9 a n c 0 0 Try.underlying22
  clear hp0
  go_upto_if 54 with (fail)
  go_cut [2] (fun v wc => ∃ xa xc, v = .slice xa n xc ∧ Shape xa n xc ∧ Hid (Sl wc.heap.size wc xa n (fun i => .string (S i))) ∧ Hid (Below w.heap.size w wc))
  case first =>
    as_aux_lemma =>
    cases a with
    | none =>
      go_wp2
      go_meet
      case rel => exact ⟨none, c, rfl, .inl ⟨rfl, hnil rfl⟩, HS, Below.refl _ _⟩
    | some a =>
      have hmk := run_make_row' (P := Try.prog) 22 9 (.string ⟨#[]⟩) 16 Try.underlying22 Try.info9 rfl .i64 .i64 n (by omega) (by omega)
      obtain ⟨wc, hrun, hS, hbel⟩ := copy_run (P := Try.prog) w 22 22 3 9 Try.underlying22 Try.size9 (.string ⟨#[]⟩) n (some a) c (fun i => .string (S i)) HS.out (fun _ => rfl)
      go_wp2
      go_meet
      case rel => exact ⟨_, _, rfl, .inr ⟨_, rfl, rfl⟩, hS, hbel⟩
  case rest =>
  as_aux_lemma =>
  obtain ⟨w1, rfl⟩ : ∃ x, x = wc := ⟨_, rfl⟩
  obtain ⟨xa, xc, rfl, HX, K, hB1⟩ := hcut
  have hs1 : w.heap.size ≤ w1.heap.size := hB1.out.size
  clear HS hnil
  have hmk := make_one
  go_wp2_with fail
  refine (zzlist_any w1.heap.size s0 k0 xa n xc (by omega) S HT.out _ (Nat.le_refl _) K.out).mono ?_
  rintro e w2 ⟨rfl, hb2⟩
  have KB2 : Hid (Below w1.heap.size w1 w2) := hb2
  clear hb2
  have HLaw := cut_law S P (n - P)
  have e1 : P + (n - P) = n := by omega
  rw [e1] at HLaw
  have HCut : Hid (j2 (jn S P) (jn (fun t => S (P + t)) (n - P)) = jn S n) := HLaw
  clear HLaw e1
  rcases HX with ⟨rfl, rfl, rfl⟩ | ⟨g, rfl, rfl⟩
  · obtain rfl : P = 0 := by omega
    go_wp2_with fail
    refine (zzlist_any w1.heap.size s0 k0 _ 0 _ (by omega) S (by simp only [tot]; omega) _ KB2.out.size (fun i hi => absurd hi (Nat.not_lt_zero _))).mono ?_
    rintro e w3 ⟨rfl, hb3⟩
    have KB3 : Hid (Below w1.heap.size w1 w3) := KB2.out.trans (hb3.mono KB2.out.size)
    clear hb3 KB2
    go_wp2_with fail
    refine (zzlist_any w1.heap.size s0 k0 _ 0 _ (by omega) (fun t => S (0 + t)) (by simp only [tot]; omega) _ KB3.out.size (fun i hi => absurd hi (Nat.not_lt_zero _))).mono ?_
    rintro e w4 ⟨rfl, hb4⟩
    have KB4 : Hid (Below w1.heap.size w1 w4) := KB3.out.trans (hb4.mono KB3.out.size)
    clear hb4 KB3
    go_wp2_with fail
    refine (zzlist_any _ s0 k0 _ 1 _ (by omega) (fun _ => x) (by simp only [tot]; omega) _ (Nat.le_refl _) (sl_one w4 x)).mono ?_
    rintro e w5 ⟨rfl, hb5⟩
    rw [jn_one]
    have KB5 : Hid (Below w1.heap.size w1 w5) := (KB4.out.alloc KB4.out.size _).trans (hb5.mono (by have := KB4.out.size; simp; omega))
    clear hb5 KB4
    go_wp2_with fail
    refine (zzlist_any w1.heap.size s0 k0 _ 0 _ (by omega) S (by simp only [tot]; omega) _ KB5.out.size (fun i hi => absurd hi (Nat.not_lt_zero _))).mono ?_
    rintro e w6 ⟨rfl, hb6⟩
    rw [jn_zero S]
    have KB6 : Hid (Below w1.heap.size w1 w6) := KB5.out.trans (hb6.mono KB5.out.size)
    clear hb6 KB5
    go_wp2_with fail
    refine (join2_any ⟨#[]⟩ ⟨#[]⟩ (Nat.zero_le _) (Nat.zero_le _) _).mono ?_
    rintro e w7 ⟨rfl, hw7⟩
    obtain rfl := hw7.symm
    rw [j2_empty]
    have hem : (⟨#[]⟩ : ByteArray).toList.isEmpty = true := by rw [ByteArray.toList_eq]; rfl
    go_wp2
    go_ret
    exact ⟨by simp, hB1.out.trans (KB6.out.mono hs1)⟩
  · go_wp2_with fail
    refine (zzlist_any w1.heap.size s0 k0 _ P _ (by omega) S (Nat.le_trans (tot_mono S (by omega)) HT.out) _ KB2.out.size ((K.out.take (by omega)).later KB2.out)).mono ?_
    rintro e w3 ⟨rfl, hb3⟩
    have KB3 : Hid (Below w1.heap.size w1 w3) := KB2.out.trans (hb3.mono KB2.out.size)
    clear hb3 KB2
    have hts := tot_split S P (xc - P)
    have htt : Hid (tot S P ≤ 1048576 ∧ tot (fun t => S (P + t)) (xc - P) ≤ 1048576) := by
      have h2 := HT.out
      rw [show P + (xc - P) = xc from by omega] at hts
      exact ⟨by omega, by omega⟩
    clear hts
    have hc1 : Hid ((jn S P).size ≤ 1073741824 ∧ (jn (fun t => S (P + t)) (xc - P)).size ≤ 1073741824) :=
      ⟨by have h := jn_size S P; have h2 := htt.out.1; omega, by have h := jn_size (fun t => S (P + t)) (xc - P); have h2 := htt.out.2; omega⟩
    by_cases hPn : P < xc
    · go_wp2_with fail
      refine (zzlist_any w1.heap.size s0 k0 _ (xc - P) _ (by omega) (fun t => S (P + t)) htt.out.2 _ KB3.out.size (K.out.drop.later KB3.out)).mono ?_
      rintro e w4 ⟨rfl, hb4⟩
      have KB4 : Hid (Below w1.heap.size w1 w4) := KB3.out.trans (hb4.mono KB3.out.size)
      clear hb4 KB3
      go_wp2_with fail
      refine (zzlist_any _ s0 k0 _ 1 _ (by omega) (fun _ => x) (by simp only [tot]; omega) _ (Nat.le_refl _) (sl_one w4 x)).mono ?_
      rintro e w5 ⟨rfl, hb5⟩
      rw [jn_one]
      have KB5 : Hid (Below w1.heap.size w1 w5) := (KB4.out.alloc KB4.out.size _).trans (hb5.mono (by have := KB4.out.size; simp; omega))
      clear hb5 KB4
      go_wp2_with fail
      refine (zzlist_any w1.heap.size s0 k0 _ 0 _ (by omega) S (by simp only [tot]; omega) _ KB5.out.size (fun i hi => absurd hi (Nat.not_lt_zero _))).mono ?_
      rintro e w6 ⟨rfl, hb6⟩
      rw [jn_zero S]
      have KB6 : Hid (Below w1.heap.size w1 w6) := KB5.out.trans (hb6.mono KB5.out.size)
      clear hb6 KB5
      go_wp2_with fail
      refine (join2_any _ _ (by exact hc1.out.1) (by exact hc1.out.2) _).mono ?_
      rintro e w7 ⟨rfl, hw7⟩
      obtain rfl := hw7.symm
      rw [HCut.out]
      have hem : (⟨#[]⟩ : ByteArray).toList.isEmpty = true := by rw [ByteArray.toList_eq]; rfl
      go_wp2
      go_ret
      exact ⟨by simp, hB1.out.trans (KB6.out.mono hs1)⟩
    · obtain rfl : P = xc := by omega
      have e0 : P - P = 0 := by omega
      rw [e0] at hc1 HCut
      clear e0
      go_wp2_with fail
      refine (zzlist_any w1.heap.size s0 k0 _ 0 _ (by omega) (fun t => S (P + t)) (by simp only [tot]; omega) _ KB3.out.size (fun i hi => absurd hi (Nat.not_lt_zero _))).mono ?_
      rintro e w4 ⟨rfl, hb4⟩
      have KB4 : Hid (Below w1.heap.size w1 w4) := KB3.out.trans (hb4.mono KB3.out.size)
      clear hb4 KB3
      go_wp2_with fail
      refine (zzlist_any _ s0 k0 _ 1 _ (by omega) (fun _ => x) (by simp only [tot]; omega) _ (Nat.le_refl _) (sl_one w4 x)).mono ?_
      rintro e w5 ⟨rfl, hb5⟩
      rw [jn_one]
      have KB5 : Hid (Below w1.heap.size w1 w5) := (KB4.out.alloc KB4.out.size _).trans (hb5.mono (by have := KB4.out.size; simp; omega))
      clear hb5 KB4
      go_wp2_with fail
      refine (zzlist_any w1.heap.size s0 k0 _ 0 _ (by omega) S (by simp only [tot]; omega) _ KB5.out.size (fun i hi => absurd hi (Nat.not_lt_zero _))).mono ?_
      rintro e w6 ⟨rfl, hb6⟩
      rw [jn_zero S]
      have KB6 : Hid (Below w1.heap.size w1 w6) := KB5.out.trans (hb6.mono KB5.out.size)
      clear hb6 KB5
      go_wp2_with fail
      refine (join2_any _ _ (by exact hc1.out.1) (by exact hc1.out.2) _).mono ?_
      rintro e w7 ⟨rfl, hw7⟩
      obtain rfl := hw7.symm
      rw [HCut.out]
      have hem : (⟨#[]⟩ : ByteArray).toList.isEmpty = true := by rw [ByteArray.toList_eq]; rfl
      go_wp2
      go_ret
      exact ⟨by simp, hB1.out.trans (KB6.out.mono hs1)⟩
end Go.Proofs.Qxb6619660a
