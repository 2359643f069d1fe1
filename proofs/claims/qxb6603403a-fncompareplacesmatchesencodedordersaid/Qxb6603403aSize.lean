import Derived.Test.Qxb6603403aStr
namespace Go.Proofs.Qxb6603403a
open Go.RowKit

/-- The bytes of all strings of a list. -/
def tot (A : List ByteArray) : Nat := (A.map (·.size)).sum

theorem tot_take (A : List ByteArray) (k : Nat) (hk : k < A.length) : tot (A.take (k + 1)) = tot (A.take k) + (A.getD k ByteArray.empty).size := by
  unfold tot
  rw [List.take_succ_eq_append_getElem hk, List.map_append, List.sum_append, List.getD_eq_getElem?_getD, List.getElem?_eq_getElem hk]
  simp

theorem tot_take_le (A : List ByteArray) (k : Nat) : tot (A.take k) ≤ tot A := by
  unfold tot
  have h : (A.map (·.size)).sum = ((A.take k).map (·.size)).sum + ((A.drop k).map (·.size)).sum := by
    rw [← List.sum_append, ← List.map_append, List.take_append_drop]
  omega

theorem mem_getD {A : List ByteArray} {k : Nat} (hk : k < A.length) : A.getD k ByteArray.empty ∈ A := by
  rw [List.getD_eq_getElem?_getD, List.getElem?_eq_getElem hk]
  exact List.getElem_mem hk

set_option maxHeartbeats 800000 in
theorem bytes7 (a : Option Addr) (cap : Nat) (A : List ByteArray) (w : World) (hm : ∀ s ∈ A, s.size ≤ 1048576) (hlen : A.length ≤ 1048576) (h : Rds w a A) :
    Calls Try.prog 7 #[.slice a A.length cap] w fun e w' => ∃ n : Int, e = .returned (.int .i64 n) ∧ (0 ≤ n ∧ n ≤ 1048577 ∧ (n ≤ 1048576 → 16 * A.length + tot A ≤ 1048576)) ∧ w = w' := by
  by_cases hb16 : 16 * A.length ≤ 1048576
  · have hl : A.length ≤ 65536 := by omega
    have htl : ∀ k, k < A.length → tot (A.take (k + 1)) = tot (A.take k) + (A.getD k ByteArray.empty).size := fun k hk => tot_take A k hk
    have hle := tot_take_le A
    have hfull : tot (A.take A.length) = tot A := by rw [List.take_length]
    generalize hL : A.length = len at *
    have HL := hide hL
    have HF := hide hfull
    have HT := hide htl
    have HLE := hide hle
    have HM := hide hm
    clear hL hfull htl hle hm
    have d1 : decide ((1048576 : Int) < (len : Int)) = false := by simp; omega
    have d2 : decide ((1048576 : Int) < 16 * (len : Int)) = false := by simp; omega
    go_enter Try.func7, Try.ntmps7
    go_wp2_with fail
    go_loop [3, 4] (fun n i => ∃ k : Nat, k ≤ len ∧ i = .int .i64 k ∧ ∃ t : Nat, n = .int .i64 t ∧ t ≤ 1048576 ∧ t = 16 * len + tot (A.take k)) (fun _ i => len - (intOf i).toNat)
    case atStart => exact ⟨0, Nat.zero_le _, rfl, 16 * len, by go_num, by omega, by simp [tot]⟩
    case round =>
      obtain ⟨k, hk, rfl, t, rfl, ht, hsum⟩ := hrel
      have HS := hide hsum
      clear hsum
      by_cases hlt : k < len
      · obtain ⟨b, off, s, rfl, hcs, hs⟩ := h.at (k := k) (by rw [unhide HL]; exact hlt)
        have hsz : s.size ≤ 1048576 := by
          rw [hs.out]
          exact unhide HM _ (mem_getD (by rw [unhide HL]; exact hlt))
        have HT' : Hid (tot (A.take (k + 1)) = tot (A.take k) + s.size) := by
          have := unhide HT k hlt
          rw [← hs.out] at this
          exact this
        go_wp2_with fail
        · go_ret
          refine ⟨1048577, rfl, ⟨by omega, by omega, fun h => by omega⟩, rfl⟩
        · go_round
          case rel => exact ⟨k + 1, by omega, by go_num, t + s.size, by go_num, by omega, by rw [unhide HT', unhide HS]; omega⟩
          case measure => simp [intOf]; omega
      · obtain rfl : k = len := by omega
        go_wp2_with fail
        go_ret
        refine ⟨t, rfl, ⟨by omega, by omega, fun _ => ?_⟩, rfl⟩
        have := unhide HS
        rw [unhide HF] at this
        omega
  · have d1 : decide ((1048576 : Int) < (A.length : Int)) = false := by simp; omega
    have d2 : decide ((1048576 : Int) < 16 * (A.length : Int)) = true := by simp; omega
    generalize hL : A.length = len at *
    clear hL hm h
    go_enter Try.func7, Try.ntmps7
    go_wp2_with fail
    go_ret
    refine ⟨1048577, rfl, ⟨by omega, by omega, fun h => by omega⟩, rfl⟩
end Go.Proofs.Qxb6603403a
