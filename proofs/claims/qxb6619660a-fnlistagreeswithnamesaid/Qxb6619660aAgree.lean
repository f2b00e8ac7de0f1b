/-
  The law FnListAgreesWithName: the plain law, the walk.
-/
import Derived.Test.Qxb6619660aJoin
import Derived.Deep.DeepCutAuto
namespace Go.Proofs.Qxb6619660a
open Go.ChangeShapes Go.WideShapes Go.ChangeAt Go.RowKit

/-! ### The plain law -/
theorem nmd_congr (S T : Nat → ByteArray) (k : Nat) (h : ∀ i, i < k → S i = T i) : nmd S k = nmd T k := by
  induction k with
  | zero => rfl
  | succ k ih => simp only [nmd]; rw [ih fun i hi => h i (by omega), h k (by omega)]
theorem nm_in (S : Nat → ByteArray) {n i : Nat} (h : i < n) : nm S n i = S i := by unfold nm; rw [if_pos h]
theorem nm_past (S : Nat → ByteArray) {n i : Nat} (h : n ≤ i) : (nm S n i).toList.isEmpty = true := by
  unfold nm; rw [if_neg (by omega), ByteArray.toList_eq]; rfl
/-- The names that 'name' gives at 0, 1, .. are the names, and nothing behind them. -/
theorem nmd_nm (S : Nat → ByteArray) (n k : Nat) : nmd (nm S n) k = nmd S (min k n) := by
  induction k with
  | zero => simp [nmd]
  | succ k ih =>
    by_cases h : k < n
    · rw [show min (k + 1) n = min k n + 1 from by omega]
      simp only [nmd]
      rw [ih, show min k n = k from by omega, nm_in S h]
    · rw [nmd_no _ k (nm_past S (by omega)), ih, show min (k + 1) n = min k n from by omega]
theorem jn_nm (S : Nat → ByteArray) (n k : Nat) : jn (nm S n) k = jn S (min k n) := by unfold jn; rw [nmd_nm]
theorem acc_none (T : Nat → ByteArray) (k : Nat) (h : (T k).toList.isEmpty = true) : jn T (k + 1) = jn T k := by unfold jn; rw [nmd_no T k h]
theorem acc_first (T : Nat → ByteArray) (k : Nat) (h : (T k).toList.isEmpty = false) (h0 : (nmd T k).length = 0) : jn T (k + 1) = jn T k ++ T k := by
  refine bytes_inj ?_
  unfold jn
  rw [nmd_yes T k h, List.eq_nil_of_length_eq_zero h0]
  simp [jl, Lib.join_one, Lib.join_nil]
theorem acc_more (T : Nat → ByteArray) (k : Nat) (h : (T k).toList.isEmpty = false) (h0 : 0 < (nmd T k).length) : jn T (k + 1) = jn T k ++ ⟨#[44, 32]⟩ ++ T k := by
  refine bytes_inj ?_
  unfold jn
  rw [nmd_yes T k h]
  obtain ⟨x, r, hx⟩ := List.exists_cons_of_ne_nil (List.ne_nil_of_length_pos h0)
  rw [hx]
  unfold jl
  rw [List.map_append, List.map_cons, List.map_cons, List.map_nil, join_append, Lib.join_one]
  simp
/-- The lengths of the names that are not empty, added up. -/
def ls (S : Nat → ByteArray) (k : Nat) : Nat := Lib.lens ((nmd S k).map (·.data.toList))
theorem ls_no (S : Nat → ByteArray) (k : Nat) (h : (S k).toList.isEmpty = true) : ls S (k + 1) = ls S k := by unfold ls; rw [nmd_no S k h]
theorem ls_yes (S : Nat → ByteArray) (k : Nat) (h : (S k).toList.isEmpty = false) : ls S (k + 1) = ls S k + (S k).size := by
  unfold ls; rw [nmd_yes S k h]
  simp only [Lib.lens, List.map_append, List.sum_append, List.map_cons, List.map_nil, List.sum_cons, List.sum_nil]
  have e : (S k).data.toList.length = (S k).size := (Lib.size_eq (S k)).symm
  omega
theorem size_jn (S : Nat → ByteArray) (n : Nat) : (jn S n).size = (jl (nmd S n)).length := by rw [Lib.size_eq]; simp [jn]
theorem len_none (S : Nat → ByteArray) (n : Nat) (h : (nmd S n).length = 0) : (jn S n).size = 0 := by
  rw [size_jn, List.eq_nil_of_length_eq_zero h]; rfl
theorem len_some (S : Nat → ByteArray) (n : Nat) (h : 0 < (nmd S n).length) : ((jn S n).size : Int) = ls S n + 2 * ((nmd S n).length - 1) := by
  have e : (jn S n).size + 2 = ls S n + 2 * (nmd S n).length := by
    rw [size_jn]
    unfold ls
    obtain ⟨x, r, hx⟩ := List.exists_cons_of_ne_nil (List.ne_nil_of_length_pos h)
    rw [hx]
    unfold jl
    rw [List.map_cons, Lib.join_length]
    simp
    omega
  omega
theorem ls_le (S : Nat → ByteArray) (k : Nat) : ls S k ≤ tot S k := nmd_lens S k
theorem tot_nm (S : Nat → ByteArray) (n k : Nat) : tot (nm S n) k ≤ tot S n := by
  have e : tot (nm S n) k = tot S (min k n) := by
    induction k with
    | zero => simp [tot]
    | succ k ih =>
      by_cases h : k < n
      · rw [show min (k + 1) n = min k n + 1 from by omega]
        simp only [tot]
        rw [ih, show min k n = k from by omega, nm_in S h]
      · have h0 : (nm S n k).size = 0 := by rw [empty_of (nm_past S (by omega : n ≤ k))]; rfl
        simp only [tot]
        rw [ih, h0, show min (k + 1) n = min k n from by omega, Nat.add_zero]
  rw [e]
  exact tot_mono S (by omega)

/-! ### The walk -/
/-- The first loop's state. -/
def Acc (T : Nat → ByteArray) (k : Nat) (a f : Value) : Prop := a = .string (jn T k) ∧ f = .int .i64 ((nmd T k).length : Nat)

set_option maxRecDepth 100000 in
set_option maxHeartbeats 1000000 in
theorem agree_any (s0 : ByteArray) (k0 : Int) (a : Option Addr) (n c : Nat) (S : Nat → ByteArray) (w : World) (hn : n ≤ maxLen) (hnc : n ≤ c)
    (hS : Sl w.heap.size w a n (fun i => .string (S i))) :
    Calls Try.prog 5 #[.string s0, .int .u8 k0, .slice a n c] w fun e w' => FinJ w e w' := by
  have HS : Hid (Sl w.heap.size w a n (fun i => .string (S i))) := hS
  clear hS
  go_enter Try.func5, Try.ntmps5
  go_wp2_with fail
  refine (bytes12_any w.heap.size s0 _ a n c hn S _ HS.out).mono ?_
  rintro e w' ⟨hb, hw⟩
  obtain rfl := hw.symm
  rcases hb with rfl | ⟨rfl, htot⟩
  · go_wp2
    go_ret
    exact ⟨rfl, Below.refl _ _⟩
  go_wp2_with fail
  all_goals first | (go_ret; exact ⟨rfl, Below.refl _ _⟩) | skip
  have bn : n ≤ 65536 := by omega
  have hz : ∀ i, i < n → (S i).size ≤ 1048576 := fun i hi => by have := tot_le S hi; omega
  have HT : Hid (tot S n ≤ 1048576) := htot
  refine (many_any _ (by omega) w.heap.size a n c hn S hz _ HS.out).mono ?_
  rintro e w' ⟨⟨b, rfl⟩, hw⟩
  obtain rfl := hw.symm
  clear hz htot
  cases b
  rotate_left
  · go_wp2
    go_ret
    exact ⟨rfl, Below.refl _ _⟩
  have hn22 := fun (w : World) (a : Option Addr) (n c : Nat) => run_neq_slice_nil_any (P := Try.prog) w 22 9 a n c 0 0 Try.underlying22
  go_upto_if 37 with (fail)
  go_cut [2] (fun v wc => ∃ xa xc, v = .slice xa n xc ∧ n ≤ xc ∧ Hid (Sl wc.heap.size wc xa n (fun i => .string (S i))) ∧ Hid (Below w.heap.size w wc))
  case first =>
    as_aux_lemma =>
    cases a with
    | none =>
      go_wp2
      go_meet
      case rel => exact ⟨none, c, rfl, hnc, HS, Below.refl _ _⟩
    | some a =>
      have hmk := run_make_row' (P := Try.prog) 22 9 (.string ⟨#[]⟩) 16 Try.underlying22 Try.info9 rfl .i64 .i64 n (by omega) (by omega)
      obtain ⟨wc, hrun, hS, hbel⟩ := copy_run (P := Try.prog) w 22 22 3 9 Try.underlying22 Try.size9 (.string ⟨#[]⟩) n (some a) c (fun i => .string (S i)) HS.out (fun _ => rfl)
      go_wp2
      go_meet
      case rel => exact ⟨_, _, rfl, Nat.le_refl _, hS, hbel⟩
  case rest =>
  as_aux_lemma =>
  obtain ⟨w1, rfl⟩ : ∃ x, x = wc := ⟨_, rfl⟩
  obtain ⟨xa, xc, rfl, hxc, K, hB1⟩ := hcut
  have hs1 : w.heap.size ≤ w1.heap.size := hB1.out.size
  clear HS hn22
  go_wp2
  go_loopw [8, 9, 10] (fun v f i wr => ∃ k : Nat, k ≤ 256 ∧ i = .int .i64 k ∧ Acc (nm S n) k v f ∧ Hid (Below w1.heap.size w1 wr)) (fun _ _ i _ => 256 - (intOf i).toNat)
  case atStart => exact ⟨0, Nat.zero_le _, rfl, ⟨rfl, rfl⟩, Below.refl _ _⟩
  case round =>
    as_aux_lemma =>
    obtain ⟨k, hk, rfl, ⟨rfl, rfl⟩, KB⟩ := hrel
    have hsz1 := jn_size (nm S n) k
    have hsz2 := tot_nm S n k
    have hsz3 : (jn (nm S n) k).size ≤ 2097152 := by have := HT.out; omega
    have hcl := nmd_len (nm S n) k
    clear hsz1 hsz2
    by_cases hlt : k < 256
    · obtain ⟨s, hs⟩ : ∃ s, nm S n k = s := ⟨_, rfl⟩
      have hss : s.size ≤ 1048576 := by
        have h1 := tot_le (nm S n) (i := k) (n := k + 1) (by omega)
        have h2 := tot_nm S n (k + 1)
        have h3 := HT.out
        rw [hs] at h1
        omega
      have HA0 : Hid (s.toList.isEmpty = true → Acc (nm S n) (k + 1) (.string (jn (nm S n) k)) (.int .i64 ((nmd (nm S n) k).length : Nat))) := fun h => by
        rw [← hs] at h
        exact ⟨by rw [acc_none _ k h], by rw [nmd_no _ k h]⟩
      have HA1 : Hid (s.toList.isEmpty = false → (nmd (nm S n) k).length = 0 → Acc (nm S n) (k + 1) (.string (jn (nm S n) k ++ s)) (.int .i64 1)) := fun h h0 => by
        rw [← hs] at h
        exact ⟨by rw [acc_first _ k h h0, hs], by rw [nmd_yes _ k h, List.length_append, h0]; rfl⟩
      have HA2 : Hid (s.toList.isEmpty = false → 0 < (nmd (nm S n) k).length → Acc (nm S n) (k + 1) (.string (jn (nm S n) k ++ ⟨#[44, 32]⟩ ++ s)) (.int .i64 (((nmd (nm S n) k).length : Nat) + 1))) := fun h h0 => by
        rw [← hs] at h
        exact ⟨by rw [acc_more _ k h h0, hs], by rw [nmd_yes _ k h]; simp⟩
      go_wp2_with fail
      refine (zzname_any w1.heap.size s0 k0 xa n xc S k hlt _ KB.out.size (K.out.later KB.out)).mono ?_
      rintro e w3 ⟨he, hb3⟩
      rw [hs] at he
      unfold NameE at he
      subst he
      have KB3 : Hid (Below w1.heap.size w1 w3) := KB.out.trans (hb3.mono KB.out.size)
      clear hb3 hs KB
      cases hemp : s.toList.isEmpty
      · by_cases h0 : (nmd (nm S n) k).length = 0
        · have R := HA1.out hemp h0
          have hd : decide (0 < (nmd (nm S n) k).length) = false := decide_eq_false (by omega)
          clear HA0 HA1 HA2
          go_wp2
          go_roundw
          case rel => exact ⟨k + 1, by omega, by go_num, R, KB3⟩
          case measure => simp [intOf]; omega
        · have R := HA2.out hemp (by omega)
          have hd : decide (0 < (nmd (nm S n) k).length) = true := decide_eq_true (by omega)
          clear HA0 HA1 HA2
          go_wp2
          go_roundw
          case rel => exact ⟨k + 1, by omega, by go_num, R, KB3⟩
          case measure => simp [intOf]; omega
      · have R := HA0.out hemp
        clear HA0 HA1 HA2
        go_wp2
        go_roundw
        case rel => exact ⟨k + 1, by omega, by go_num, R, KB3⟩
        case measure => simp [intOf]; omega
    · obtain ⟨A, hA⟩ : ∃ A, jn (nm S n) k = A := ⟨_, rfl⟩
      rw [hA] at hsz3 ⊢
      obtain ⟨C, hC⟩ : ∃ C, (nmd (nm S n) k).length = C := ⟨_, rfl⟩
      rw [hC] at hcl ⊢
      clear hC
      by_cases hbig : 256 < n
      · have HCon : Hid (∀ wx, Below w1.heap.size w1 wx → Calls Try.prog 8 #[.string s0, .int .u8 k0, .slice xa 256 xc] wx fun e w'' => e = .returned (.string A) ∧ Below wx.heap.size wx w'') := fun wx hb => by
          have h := zzlist_any w1.heap.size s0 k0 xa 256 xc (by omega) S (Nat.le_trans (tot_mono S (by omega)) HT.out) wx hb.size ((K.out.take (by omega)).later hb)
          rw [jn_nm, show min k n = 256 from by omega] at hA
          rw [hA] at h
          exact h
        clear hA
        go_wp2_with fail
        refine (HCon.out _ KB.out).mono ?_
        rintro e w4 ⟨rfl, hb4⟩
        have KB4 : Hid (Below w1.heap.size w1 w4) := KB.out.trans (hb4.mono KB.out.size)
        clear hb4 KB HCon
        go_wp2
        go_loop [14, 15, 86] (fun ct sm i => ∃ t : Nat, t ≤ n ∧ ct = .int .i64 ((nmd S t).length : Nat) ∧ sm = .int .i64 (ls S t : Nat) ∧ i = .int .i64 t) (fun _ _ i => n - (intOf i).toNat)
        case atStart => exact ⟨0, Nat.zero_le _, rfl, rfl, rfl⟩
        case round =>
          as_aux_lemma =>
          obtain ⟨t, ht, rfl, rfl, rfl⟩ := hrel
          have hl1 := nmd_len S t
          have hl2 : ls S t ≤ 1048576 := Nat.le_trans (ls_le S t) (Nat.le_trans (tot_mono S ht) HT.out)
          by_cases hlt2 : t < n
          · obtain ⟨b, off, rfl, _, hc⟩ := (K.out.later KB4.out) t hlt2
            have hst : (S t).size ≤ 1048576 := Nat.le_trans (tot_le S hlt2) HT.out
            cases hemp : (S t).toList.isEmpty
            · have HY1 : Hid (ls S (t + 1) = ls S t + (S t).size) := ls_yes S t hemp
              have HY2 : Hid ((nmd S (t + 1)).length = (nmd S t).length + 1) := by unfold Hid; rw [nmd_yes S t hemp]; simp
              go_wp2
              go_round
              case rel => exact ⟨t + 1, by omega, by rw [HY2.out]; go_num, by rw [HY1.out]; go_num, by go_num⟩
              case measure => simp [intOf]; omega
            · have HY1 : Hid (ls S (t + 1) = ls S t) := ls_no S t hemp
              have HY2 : Hid ((nmd S (t + 1)).length = (nmd S t).length) := by unfold Hid; rw [nmd_no S t hemp]
              go_wp2
              go_round
              case rel => exact ⟨t + 1, by omega, by rw [HY2.out], by rw [HY1.out], by go_num⟩
              case measure => simp [intOf]; omega
          · obtain rfl : t = n := by omega
            by_cases h0 : (nmd S t).length = 0
            · have hz : (jn S t).size = 0 := len_none S t h0
              go_wp2_with fail
              refine (zzlist_any w1.heap.size s0 k0 xa t xc (by omega) S HT.out _ KB4.out.size (K.out.later KB4.out)).mono ?_
              rintro e w5 ⟨rfl, hb5⟩
              have KB5 : Hid (Below w1.heap.size w1 w5) := KB4.out.trans (hb5.mono KB4.out.size)
              clear hb5
              go_wp2
              go_ret
              exact ⟨by simp, hB1.out.trans (KB5.out.mono hs1)⟩
            · have hz : ((jn S t).size : Int) = ls S t + 2 * ((nmd S t).length - 1) := len_some S t (by omega)
              have hz2 : (((jn S t).size : Int) == (ls S t : Int) + 2 * ((nmd S t).length - 1)) = true := by simpa using hz
              have hd : decide (0 < (nmd S t).length) = true := decide_eq_true (by omega)
              clear hz
              go_wp2_with fail
              refine (zzlist_any w1.heap.size s0 k0 xa t xc (by omega) S HT.out _ KB4.out.size (K.out.later KB4.out)).mono ?_
              rintro e w5 ⟨rfl, hb5⟩
              have KB5 : Hid (Below w1.heap.size w1 w5) := KB4.out.trans (hb5.mono KB4.out.size)
              clear hb5
              go_wp2
              go_ret
              exact ⟨by simp, hB1.out.trans (KB5.out.mono hs1)⟩
      · have HCon : Hid (∀ wx, Below w1.heap.size w1 wx → Calls Try.prog 8 #[.string s0, .int .u8 k0, .slice xa n xc] wx fun e w'' => e = .returned (.string A) ∧ Below wx.heap.size wx w'') := fun wx hb => by
          have h := zzlist_any w1.heap.size s0 k0 xa n xc (by omega) S (Nat.le_trans (tot_mono S (by omega)) HT.out) wx hb.size ((K.out.take (by omega)).later hb)
          rw [jn_nm, show min k n = n from by omega] at hA
          rw [hA] at h
          exact h
        clear hA
        go_wp2_with fail
        refine (HCon.out _ KB.out).mono ?_
        rintro e w4 ⟨rfl, hb4⟩
        have KB4 : Hid (Below w1.heap.size w1 w4) := KB.out.trans (hb4.mono KB.out.size)
        clear hb4 KB HCon
        go_wp2
        go_loop [14, 15, 86] (fun ct sm i => ∃ t : Nat, t ≤ n ∧ ct = .int .i64 ((nmd S t).length : Nat) ∧ sm = .int .i64 (ls S t : Nat) ∧ i = .int .i64 t) (fun _ _ i => n - (intOf i).toNat)
        case atStart => exact ⟨0, Nat.zero_le _, rfl, rfl, rfl⟩
        case round =>
          as_aux_lemma =>
          obtain ⟨t, ht, rfl, rfl, rfl⟩ := hrel
          have hl1 := nmd_len S t
          have hl2 : ls S t ≤ 1048576 := Nat.le_trans (ls_le S t) (Nat.le_trans (tot_mono S ht) HT.out)
          by_cases hlt2 : t < n
          · obtain ⟨b, off, rfl, _, hc⟩ := (K.out.later KB4.out) t hlt2
            have hst : (S t).size ≤ 1048576 := Nat.le_trans (tot_le S hlt2) HT.out
            cases hemp : (S t).toList.isEmpty
            · have HY1 : Hid (ls S (t + 1) = ls S t + (S t).size) := ls_yes S t hemp
              have HY2 : Hid ((nmd S (t + 1)).length = (nmd S t).length + 1) := by unfold Hid; rw [nmd_yes S t hemp]; simp
              go_wp2
              go_round
              case rel => exact ⟨t + 1, by omega, by rw [HY2.out]; go_num, by rw [HY1.out]; go_num, by go_num⟩
              case measure => simp [intOf]; omega
            · have HY1 : Hid (ls S (t + 1) = ls S t) := ls_no S t hemp
              have HY2 : Hid ((nmd S (t + 1)).length = (nmd S t).length) := by unfold Hid; rw [nmd_no S t hemp]
              go_wp2
              go_round
              case rel => exact ⟨t + 1, by omega, by rw [HY2.out], by rw [HY1.out], by go_num⟩
              case measure => simp [intOf]; omega
          · obtain rfl : t = n := by omega
            by_cases h0 : (nmd S t).length = 0
            · have hz : (jn S t).size = 0 := len_none S t h0
              go_wp2_with fail
              refine (zzlist_any w1.heap.size s0 k0 xa t xc (by omega) S HT.out _ KB4.out.size (K.out.later KB4.out)).mono ?_
              rintro e w5 ⟨rfl, hb5⟩
              have KB5 : Hid (Below w1.heap.size w1 w5) := KB4.out.trans (hb5.mono KB4.out.size)
              clear hb5
              go_wp2
              go_ret
              exact ⟨by simp, hB1.out.trans (KB5.out.mono hs1)⟩
            · have hz : ((jn S t).size : Int) = ls S t + 2 * ((nmd S t).length - 1) := len_some S t (by omega)
              have hz2 : (((jn S t).size : Int) == (ls S t : Int) + 2 * ((nmd S t).length - 1)) = true := by simpa using hz
              have hd : decide (0 < (nmd S t).length) = true := decide_eq_true (by omega)
              clear hz
              go_wp2_with fail
              refine (zzlist_any w1.heap.size s0 k0 xa t xc (by omega) S HT.out _ KB4.out.size (K.out.later KB4.out)).mono ?_
              rintro e w5 ⟨rfl, hb5⟩
              have KB5 : Hid (Below w1.heap.size w1 w5) := KB4.out.trans (hb5.mono KB4.out.size)
              clear hb5
              go_wp2
              go_ret
              exact ⟨by simp, hB1.out.trans (KB5.out.mono hs1)⟩
end Go.Proofs.Qxb6619660a
