/-
  The name of a value: valueNames.name and its wrapper.
-/
import Derived.Test.Qxb6619660aBase
namespace Go.Proofs.Qxb6619660a
open Go.ChangeShapes Go.WideShapes Go.ChangeAt Go.RowKit

/-- The name of v among the first n names; the empty string where there is none. -/
def nm (S : Nat → ByteArray) (n v : Nat) : ByteArray := if v < n then S v else ⟨#[]⟩

theorem empty_of {s : ByteArray} (h : s.toList.isEmpty = true) : s = ⟨#[]⟩ := by
  rw [ByteArray.toList_eq] at h
  refine bytes_inj ?_
  have h2 : s.data.toList = [] := by simpa using h
  rw [h2]

/-- What the call hands back: the name, and whether it is not empty. -/
def NameE (s : ByteArray) (e : Ending) : Prop := e = .returned (.tuple #[.string s, .bool (!s.toList.isEmpty)])
theorem NameE.some {s : ByteArray} (h : s.toList.isEmpty = false) : NameE s (.returned (.tuple #[.string s, .bool true])) := by unfold NameE; rw [h]; rfl
theorem NameE.none : NameE ⟨#[]⟩ (.returned (.tuple #[.string ⟨#[]⟩, .bool false])) := by unfold NameE; rw [ByteArray.toList_eq]; rfl

set_option maxHeartbeats 400000 in
theorem name_any (B p : Nat) (a : Option Addr) (n c : Nat) (S : Nat → ByteArray) (v : Nat) (hv : v < 256) (w : World)
    (hp : w.cell? ⟨p, 2, none⟩ = some (.slice a n c)) (hS : Sl B w a n (fun i => .string (S i))) :
    Calls Try.prog 14 #[.pointer (some ⟨p, 0, none⟩), .int .u8 (v : Int)] w fun e w' => NameE (nm S n v) e ∧ w' = w := by
  by_cases hlt : v < n
  · obtain ⟨b, off, rfl, _, hc⟩ := hS v hlt
    clear hS
    have HN : Hid (nm S n v = S v) := by unfold Hid nm; rw [if_pos hlt]
    cases he : (S v).toList.isEmpty
    · go_enter Try.func14, Try.ntmps14
      go_wp2
      go_ret2
      rw [HN.out]
      exact ⟨NameE.some he, rfl⟩
    · go_enter Try.func14, Try.ntmps14
      go_wp2
      go_ret2
      rw [HN.out, empty_of he]
      exact ⟨NameE.none, rfl⟩
  · have HN : Hid (nm S n v = ⟨#[]⟩) := by unfold Hid nm; rw [if_neg hlt]
    clear hS
    go_enter Try.func14, Try.ntmps14
    go_wp2
    go_ret2
    rw [HN.out]
    exact ⟨NameE.none, rfl⟩

set_option maxHeartbeats 400000 in
theorem zzname_any (B : Nat) (s0 : ByteArray) (k : Int) (a : Option Addr) (n c : Nat) (S : Nat → ByteArray) (v : Nat) (hv : v < 256) (w : World) (hB : B ≤ w.heap.size)
    (hS : Sl B w a n (fun i => .string (S i))) :
    Calls Try.prog 11 #[.string s0, .int .u8 k, .slice a n c, .int .u8 (v : Int)] w fun e w' => NameE (nm S n v) e ∧ Below w.heap.size w w' := by
  have HS : Hid (Sl B w a n (fun i => .string (S i))) := hS
  clear hS
  go_enter Try.func11, Try.ntmps11
  go_wp2_with fail
  refine (name_any B w.heap.size a n c S v hv _ ?_ ?_).mono ?_
  · simp
  · exact HS.out.later ((Below.refl _ _).alloc hB _)
  rintro e w' ⟨he, hw⟩
  obtain rfl := hw.symm
  unfold NameE at he
  subst he
  go_wp2
  go_ret2
  exact ⟨rfl, (Below.refl _ _).alloc (Nat.le_refl _) _⟩
end Go.Proofs.Qxb6619660a
