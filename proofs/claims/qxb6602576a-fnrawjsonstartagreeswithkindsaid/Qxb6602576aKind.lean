import Derived.Test.Qxb6602576aProg
import Derived.Test.Qxb6602576aLaws
import Derived.WalkKit
import Derived.WalkSpells
import Derived.WalkLawsBesides
import Derived.Below
namespace Go.Proofs.Qxb6602576a
open Go.RowKit

/-- The kind that a value's first byte names. -/
def kindOf (c : Int) : Int :=
  if c = 110 then 1 else if c = 116 ∨ c = 102 then 2 else if c = 34 then 4 else if c = 91 then 5 else if c = 123 then 6 else 3

theorem kindOf_ne (c : Int) : kindOf c ≠ 0 := by
  unfold kindOf; repeat' split
  all_goals omega


set_option maxHeartbeats 400000 in
theorem kind26 (b off len cap : Nat) (c : Int) (w : World) (hlen : 0 < len) (hc : w.cell? ⟨b, off, none⟩ = some (.int .u8 c)) :
    Calls Try.prog 26 #[.agg #[.slice (some ⟨b, off, none⟩) len cap, .pointer none]] w fun e w' => e = .returned (.int .u8 (kindOf c)) ∧ Below w.heap.size w w' := by
  have hl : ((len : Int) == 0) = false := by simp; omega
  have hb : b < w.heap.size := World.block_lt_of_cell? w _ hc
  go_enter Try.func26, Try.ntmps26
  go_wp2
  all_goals go_ret
  all_goals refine ⟨ret_int ?_, (Below.refl _ _).alloc (Nat.le_refl _) _⟩
  all_goals unfold kindOf
  all_goals simp_all

set_option maxHeartbeats 400000 in
theorem kind13 (b off len cap : Nat) (c : Int) (w : World) (hlen : 0 < len) (hc : w.cell? ⟨b, off, none⟩ = some (.int .u8 c)) :
    Calls Try.prog 13 #[.slice (some ⟨b, off, none⟩) len cap, .bool false, .slice none 0 0] w fun e w' => e = .returned (.int .u8 (kindOf c)) ∧ Below w.heap.size w w' := by
  have hb : b < w.heap.size := World.block_lt_of_cell? w _ hc
  go_enter Try.func13, Try.ntmps13
  go_wp2_with fail
  refine (kind26 b off len cap c _ hlen (by rw [World.cell?_alloc_lt _ _ _ hb]; exact hc)).mono ?_
  rintro e w1 ⟨rfl, hb1⟩
  go_wp2_with fail
  go_ret
  exact ⟨rfl, ((Below.refl _ _).alloc (Nat.le_refl _) _).trans (hb1.mono (by simp))⟩

theorem bytes21 (a0 a1 : Option Addr) (len0 cap0 len1 cap1 : Nat) (w : World) (h0 : len0 ≤ maxLen) (h1 : len1 ≤ maxLen) :
    Calls Try.prog 21 #[.slice a0 len0 cap0, .slice a1 len1 cap1] w fun e w' => e = .returned (.bool (decide (len0 + len1 ≤ 1048576))) ∧ w = w' := by
  unfold maxLen at h0 h1
  go_enter Try.func21, Try.ntmps21
  go_wp2
  all_goals go_ret
  all_goals refine ⟨ret_bool ?_, rfl⟩
  all_goals (first | (symm; apply decide_eq_true; omega) | (symm; apply decide_eq_false; omega))
end Go.Proofs.Qxb6602576a
