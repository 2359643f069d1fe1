import Derived.Test.Qxb6602576aNew11
import Derived.Lib.IndexBytes
namespace Go.Proofs.Qxb6602576a
open Go.RowKit

/-- What follows a value that has ended. -/
def endStep (ol : Nat) : Int := if ol = 0 then 18 else 5
/-- What follows a byte of a literal that has n bytes to come, that one counted in. -/
def litStep (n ol : Nat) : Int := if 1 < n then 9 else endStep ol

theorem ended44 (B : Nat) (a : Option Addr) (l c : Nat) (w : World) (hc : w.cell? ⟨B, 0, none⟩ = some (.slice a l c)) :
    Calls Try.prog 44 #[.pointer (some ⟨B, 0, none⟩)] w fun e w' => e = .returned (.int .u8 (endStep l)) ∧ w = w' := by
  by_cases h : l = 0
  · subst h
    go_enter Try.func44, Try.ntmps44
    go_wp2
    go_ret
    exact ⟨rfl, rfl⟩
  · have hd : ((l : Int) == 0) = false := by simp; omega
    have he : endStep l = 5 := if_neg h
    go_enter Try.func44, Try.ntmps44
    go_wp2
    go_ret
    exact ⟨ret_int he.symm, rfl⟩

theorem cut_empty (s : ByteArray) : (s.extract 1 s.size).toList.isEmpty = decide (s.size ≤ 1) := by
  rw [ByteArray.toList_eq, Lib.extract_to_end]
  have e : s.data.toList.length = s.size := rfl
  rw [Bool.eq_iff_iff, List.isEmpty_iff, List.drop_eq_nil_iff, decide_eq_true_iff, e]

set_option maxHeartbeats 800000 in
theorem lit27 (B : Nat) (oa : Option Addr) (ol oc : Nat) (nv hv mv cv tv pv : Value) (s : ByteArray) (w : World) (hs : 0 < s.size) (hm : s.size ≤ 1048576)
    (hB : w.heap[B]? = some (.cells #[.slice oa ol oc, nv, .string s, hv, mv, cv, tv, pv] 56 (0, 0))) :
    Calls Try.prog 27 #[.pointer (some ⟨B, 0, none⟩), .int .u8 9, .int .u8 (s[0].toNat)] w fun e w' => e = .returned (.int .u8 (litStep s.size ol)) ∧
      w'.heap[B]? = some (.cells #[.slice oa ol oc, nv, .string (s.extract 1 s.size), hv, mv, cv, tv, pv] 56 (0, 0)) ∧ w.grownBy w' (some B) := by
  have cB := fun j => cell_of_row w _ j _ _ _ hB
  have fB := fun j => frozen_of_row w _ j _ _ hB
  have HB := hide hB
  clear hB
  have hgs := grown_set w B 2 (.string (s.extract 1 s.size))
  have hB' := heap_setCell_same w B 2 _ _ (.string (s.extract 1 s.size)) (unhide HB)
  simp at hB'
  have HB' := hide hB'
  clear hB'
  by_cases h1 : 1 < s.size
  · have he : (s.extract 1 s.size).toList.isEmpty = false := by rw [cut_empty]; simp; omega
    have hl : litStep s.size ol = 9 := if_pos h1
    go_enter Try.func27, Try.ntmps27
    go_wp2_with fail
    go_ret
    exact ⟨ret_int hl.symm, unhide HB', hgs⟩
  · have he : (s.extract 1 s.size).toList.isEmpty = true := by rw [cut_empty]; simp; omega
    have hl : litStep s.size ol = endStep ol := if_neg h1
    have hc' := cell_of_row _ _ 0 _ _ _ (unhide HB')
    simp at hc'
    go_enter Try.func27, Try.ntmps27
    go_wp2_with fail
    refine (ended44 B oa ol oc _ hc').mono ?_
    rintro e w1 ⟨rfl, rfl⟩
    go_wp2_with fail
    go_ret
    exact ⟨ret_int hl.symm, unhide HB', hgs⟩

theorem lit16 (B : Nat) (oa : Option Addr) (ol oc : Nat) (nv hv mv cv tv pv : Value) (s : ByteArray) (w : World) (hs : 0 < s.size) (hm : s.size ≤ 1048576)
    (hB : w.heap[B]? = some (.cells #[.slice oa ol oc, nv, .string s, hv, mv, cv, tv, pv] 56 (0, 0))) :
    Calls Try.prog 16 #[.pointer (some ⟨B, 0, none⟩), .int .u8 9, .int .u8 (s[0].toNat)] w fun e w' => e = .returned (.int .u8 (litStep s.size ol)) ∧
      w'.heap[B]? = some (.cells #[.slice oa ol oc, nv, .string (s.extract 1 s.size), hv, mv, cv, tv, pv] 56 (0, 0)) ∧ w.grownBy w' (some B) := by
  have HB := hide hB
  clear hB
  go_enter Try.func16, Try.ntmps16
  go_wp2_with fail
  refine (lit27 B oa ol oc nv hv mv cv tv pv s w hs hm (unhide HB)).mono ?_
  rintro e w1 ⟨rfl, hr, hg⟩
  have HR := hide hr
  clear hr
  go_wp2_with fail
  go_ret
  exact ⟨rfl, unhide HR, hg⟩
end Go.Proofs.Qxb6602576a
