/-
  The law FnNameAfterInsertAtAnyPlace: the walk.
-/
import Derived.Test.Qxb6619660aCopy
import Derived.Deep.DeepCutAuto
namespace Go.Proofs.Qxb6619660a
open Go.ChangeShapes Go.WideShapes Go.ChangeAt Go.RowKit

/-- The names with x put in at place p. -/
def ins (S : Nat → ByteArray) (p : Nat) (x : ByteArray) (i : Nat) : ByteArray := if i < p then S i else if i = p then x else S (i - 1)
theorem ins_lt (S : Nat → ByteArray) {p : Nat} (x : ByteArray) {i : Nat} (h : i < p) : ins S p x i = S i := by unfold ins; rw [if_pos h]
theorem ins_at (S : Nat → ByteArray) (p : Nat) (x : ByteArray) : ins S p x p = x := by unfold ins; rw [if_neg (by omega), if_pos rfl]
theorem ins_gt (S : Nat → ByteArray) {p : Nat} (x : ByteArray) {i : Nat} (h : p ≤ i) : ins S p x (i + 1) = S i := by unfold ins; rw [if_neg (by omega), if_neg (by omega)]; rfl

theorem nm_lt (S : Nat → ByteArray) {p n k : Nat} (x : ByteArray) (h : k < p) (hn : p ≤ n) : nm (ins S p x) (n + 1) k = nm S n k := by
  unfold nm; rw [if_pos (by omega), if_pos (by omega), ins_lt S x h]
theorem nm_at (S : Nat → ByteArray) {p n : Nat} (x : ByteArray) (hn : p ≤ n) : nm (ins S p x) (n + 1) p = x := by
  unfold nm; rw [if_pos (by omega), ins_at]
theorem nm_gt (S : Nat → ByteArray) {p n k : Nat} (x : ByteArray) (h : p ≤ k) : nm (ins S p x) (n + 1) (k + 1) = nm S n k := by
  unfold nm
  by_cases e : k < n
  · rw [if_pos (by omega), if_pos e, ins_gt S x h]
  · rw [if_neg (by omega), if_neg e]
theorem nm_out (S : Nat → ByteArray) {n k : Nat} (h : n ≤ k) : (nm S n k).toList.isEmpty = true := by
  unfold nm; rw [if_neg (by omega), ByteArray.toList_eq]; rfl

def Fin (w : World) (e : Ending) (w' : World) : Prop := e = .returned (.bool true) ∧ Below w.heap.size w w'

set_option maxRecDepth 100000 in
set_option maxHeartbeats 1000000 in
theorem insert_any (s0 x : ByteArray) (k0 p : Int) (a : Option Addr) (n c : Nat) (S : Nat → ByteArray) (w : World) (hn : n ≤ maxLen)
    (hS : Sl w.heap.size w a n (fun i => .string (S i))) :
    Calls Try.prog 4 #[.string s0, .int .u8 k0, .slice a n c, .int .i64 p, .string x] w fun e w' => Fin w e w' := by
  have HS : Hid (Sl w.heap.size w a n (fun i => .string (S i))) := hS
  clear hS
  go_enter Try.func4, Try.ntmps4
  go_wp2_with fail
  refine (bytes10_any w.heap.size s0 x _ _ a n c hn S _ HS.out).mono ?_
  rintro e w' ⟨hb, hw⟩
  obtain rfl := hw.symm
  rcases hb with rfl | ⟨rfl, htot⟩
  · go_wp2
    go_ret
    exact ⟨rfl, Below.refl _ _⟩
  go_wp2_with fail
  all_goals first | (go_ret; exact ⟨rfl, Below.refl _ _⟩) | skip
  have bn : n ≤ 65536 := by omega
  have hz : ∀ i, i < n → (S i).size ≤ 1048576 := fun i hi => by have := tot_le S hi; omega
  refine (many_any _ (by omega) w.heap.size a n c hn S hz _ HS.out).mono ?_
  rintro e w' ⟨⟨b, rfl⟩, hw⟩
  obtain rfl := hw.symm
  clear hz htot
  cases b
  rotate_left
  · go_wp2
    go_ret
    exact ⟨rfl, Below.refl _ _⟩
  by_cases hp0 : p < 0
  · go_wp2
    go_ret
    exact ⟨rfl, Below.refl _ _⟩
  obtain ⟨P, rfl⟩ := Int.eq_ofNat_of_zero_le (show 0 ≤ p by omega)
  have hd0 : decide ((P : Int) < 0) = false := by simp
  by_cases hpn : n < P
  · go_wp2
    go_ret
    exact ⟨rfl, Below.refl _ _⟩
  have hd1 : decide (n < P) = false := by simp; omega
  have hn22 := fun (w : World) (a : Option Addr) (n c : Nat) => run_neq_slice_nil_any (P := Try.prog) w 22 9 a n c 0 0 Try.underlying22
  clear hp0
  go_upto_if 56 with (fail)
  go_cut [2] (fun v wc => ∃ xa xc, v = .slice xa n xc ∧ Hid (Sl wc.heap.size wc xa n (fun i => .string (S i))) ∧ Hid (Below w.heap.size w wc))
  case first =>
    as_aux_lemma =>
    cases a with
    | none =>
      go_wp2
      go_meet
      case rel => exact ⟨none, c, rfl, HS, Below.refl _ _⟩
    | some a =>
      have hmk := run_make_row' (P := Try.prog) 22 9 (.string ⟨#[]⟩) 16 Try.underlying22 Try.info9 rfl .i64 .i64 n (by omega) (by omega)
      obtain ⟨wc, hrun, hS, hbel⟩ := copy_run (P := Try.prog) w 22 22 3 9 Try.underlying22 Try.size9 (.string ⟨#[]⟩) n (some a) c (fun i => .string (S i)) HS.out (fun _ => rfl)
      go_wp2
      go_meet
      case rel => exact ⟨_, _, rfl, hS, hbel⟩
  case rest =>
  as_aux_lemma =>
  obtain ⟨w1, rfl⟩ : ∃ x, x = wc := ⟨_, rfl⟩
  obtain ⟨xa, xc, rfl, K, hB1⟩ := hcut
  have hs1 : w.heap.size ≤ w1.heap.size := hB1.out.size
  clear HS
  have hmk := run_make_row' (P := Try.prog) 22 9 (.string ⟨#[]⟩) 16 Try.underlying22 Try.info9 rfl .i64 .i64 (n + 1) (by omega) (by omega)
  have ec : ((n + 1 : Nat) : Int) = (n : Int) + 1 := by omega
  rw [ec] at hmk
  clear ec
  go_wp2
  go_loopw [13] (fun i wr => ∃ q : Nat, q ≤ P ∧ i = .int .i64 q ∧ Fill w1 wr w1.heap.size (n + 1) (ins S P x) q) (fun i _ => P - (intOf i).toNat)
  case atStart => exact ⟨0, Nat.zero_le _, rfl, Fill.start _ _ _⟩
  case round =>
    as_aux_lemma =>
    obtain ⟨q, hq, rfl, hfill⟩ := hrel
    by_cases hlt : q < P
    · obtain ⟨b, off, rfl, hbB, hc⟩ := (K.out.later hfill.2) q (by omega)
      have hcg := hfill.1.cell (i := q) (by omega)
      have hfg := hfill.1.frozen q
      have HF : Hid (Fill w1 wr w1.heap.size (n + 1) (ins S P x) q) := hfill
      have HE : Hid (ins S P x q = S q) := ins_lt S x hlt
      clear hfill
      go_wp2
      go_roundw
      case rel => exact ⟨q + 1, by omega, by go_num, HF.out.put _ HE.out⟩
      case measure => simp [intOf]; omega
    · obtain rfl : q = P := by omega
      have hcg := hfill.1.cell (i := q) (by omega)
      have hfg := hfill.1.frozen q
      have HF : Hid (Fill w1 (wr.setCell ⟨w1.heap.size, q, none⟩ (.string x)) w1.heap.size (n + 1) (ins S q x) (q + 1)) := hfill.put _ (ins_at S q x)
      clear hfill
      go_wp2
      go_loopw [14] (fun i wr => ∃ t : Nat, q ≤ t ∧ t ≤ n ∧ i = .int .i64 t ∧ Fill w1 wr w1.heap.size (n + 1) (ins S q x) (t + 1)) (fun i _ => n - (intOf i).toNat)
      case atStart => exact ⟨q, Nat.le_refl _, by omega, rfl, HF.out⟩
      case round =>
        as_aux_lemma =>
        clear hcg hfg HF
        obtain ⟨t, ht0, ht, rfl, hfill⟩ := hrel
        by_cases hlt2 : t < n
        · obtain ⟨b, off, rfl, hbB, hc⟩ := (K.out.later hfill.2) t hlt2
          have hcg := hfill.1.cell (i := t + 1) (by omega)
          have hfg := hfill.1.frozen (t + 1)
          have HF : Hid (Fill w1 wr w1.heap.size (n + 1) (ins S q x) (t + 1)) := hfill
          have HE : Hid (ins S q x (t + 1) = S t) := ins_gt S x ht0
          clear hfill
          go_wp2
          go_roundw
          case rel => exact ⟨t + 1, by omega, by omega, by go_num, HF.out.put _ HE.out⟩
          case measure => simp [intOf]; omega
        · obtain rfl : t = n := by omega
          obtain ⟨w2, rfl⟩ : ∃ x, x = wr := ⟨_, rfl⟩
          have KW : Hid (Sl w2.heap.size w2 (some ⟨w1.heap.size, 0, none⟩) (t + 1) (fun i => .string (ins S q x i))) := hfill.sl
          have K2 : Hid (Sl w2.heap.size w2 xa t (fun i => .string (S i))) := K.out.up hfill.2 hfill.2.size
          have HB : Hid (Below w.heap.size w w2) := hB1.out.trans (hfill.2.mono hs1)
          have hs2 : w.heap.size ≤ w2.heap.size := HB.out.size
          clear hfill K hB1 hmk hn22
          go_wp2
          go_loopw [15] (fun i wr => ∃ k : Nat, k ≤ 256 ∧ i = .int .i64 k ∧ Hid (Below w2.heap.size w2 wr)) (fun i _ => 256 - (intOf i).toNat)
          case atStart => exact ⟨0, Nat.zero_le _, rfl, Below.refl _ _⟩
          case round =>
            as_aux_lemma =>
            obtain ⟨k, hk, rfl, HW⟩ := hrel
            by_cases hlt3 : k < 256
            · obtain ⟨s, hs⟩ : ∃ s, nm (ins S q x) (t + 1) k = s := ⟨_, rfl⟩
              have HL : Hid (k < q → nm S t k = s) := fun h => (nm_lt S x h (by omega)).symm.trans hs
              have HA : Hid (k = q → s = x) := fun h => by rw [← hs, h]; exact nm_at S x (by omega)
              have HG : Hid (∀ k', k = k' + 1 → q < k → nm S t k' = s) := fun k' e h => by rw [← hs, e]; exact (nm_gt S x (by omega)).symm
              have HE : Hid (t < k → s.toList.isEmpty = true) := fun h => by rw [← hs]; exact nm_out _ (by omega)
              go_wp2_with fail
              refine (zzname_any w2.heap.size s0 k0 _ (t + 1) (t + 1) (ins S q x) k hlt3 _ HW.out.size (KW.out.later HW.out)).mono ?_
              rintro e w3 ⟨he, hb3⟩
              rw [hs] at he
              unfold NameE at he
              subst he
              have HW3 : Hid (Below w2.heap.size w2 w3) := HW.out.trans (hb3.mono HW.out.size)
              clear hb3 hs HW
              by_cases h1 : k < q
              · have hE := HL.out h1
                go_wp2_with fail
                refine (zzname_any w2.heap.size s0 k0 xa t xc S k hlt3 _ HW3.out.size (K2.out.later HW3.out)).mono ?_
                rintro e w4 ⟨he, hb4⟩
                rw [hE] at he
                unfold NameE at he
                subst he
                have HW4 : Hid (Below w2.heap.size w2 w4) := HW3.out.trans (hb4.mono HW3.out.size)
                clear hb4 hE HL HA HG HE
                go_wp2
                go_roundw
                case rel => exact ⟨k + 1, by omega, by go_num, HW4⟩
                case measure => simp [intOf]; omega
              · by_cases h2 : k = q
                · obtain rfl := HA.out h2
                  subst h2
                  clear HL HA HG HE
                  go_wp2
                  go_roundw
                  case rel => exact ⟨k + 1, by omega, by go_num, HW3⟩
                  case measure => simp [intOf]; omega
                · obtain ⟨k', rfl⟩ : ∃ k', k = k' + 1 := ⟨k - 1, by omega⟩
                  have hE := HG.out k' rfl (by omega)
                  have hb : (((k' + 1 : Nat) : Int) == (q : Int)) = false := by simp; omega
                  have hb' : (((k' : Nat) : Int) + 1 == (q : Int)) = false := by simp; omega
                  go_wp2_with fail
                  refine (zzname_any w2.heap.size s0 k0 xa t xc S k' (by omega) _ HW3.out.size (K2.out.later HW3.out)).mono ?_
                  rintro e w4 ⟨he, hb4⟩
                  rw [hE] at he
                  unfold NameE at he
                  subst he
                  have HW4 : Hid (Below w2.heap.size w2 w4) := HW3.out.trans (hb4.mono HW3.out.size)
                  clear hb4 hE HL HA HG hb hb'
                  by_cases hin : k' + 1 ≤ t
                  · clear HE
                    go_wp2
                    go_roundw
                    case rel => exact ⟨k' + 2, by omega, by go_num, HW4⟩
                    case measure => simp [intOf]; omega
                  · have hse := HE.out (by omega)
                    clear HE
                    go_wp2
                    go_roundw
                    case rel => exact ⟨k' + 2, by omega, by go_num, HW4⟩
                    case measure => simp [intOf]; omega
            · go_wp2
              go_ret
              exact ⟨rfl, HB.out.trans (HW.out.mono hs2)⟩
end Go.Proofs.Qxb6619660a
