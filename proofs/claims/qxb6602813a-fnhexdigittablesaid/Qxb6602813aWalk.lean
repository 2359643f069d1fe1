import Derived.Test.Qxb6602813aProg
import Derived.WalkKit
import Derived.WalkSpells
import Derived.WalkLawsBesides
import Derived.Below
namespace Go.Proofs.Qxb6602813a
open Go.RowKit

theorem ret_bool {a b : Bool} (h : a = b) : Ending.returned (.bool a) = .returned (.bool b) := by rw [h]

theorem ret_pair {a b : Int} {p q : Bool} (h : a = b) (h' : p = q) : Ending.returned (.tuple #[.int .i32 a, .bool p]) = .returned (.tuple #[.int .i32 b, .bool q]) := by rw [h, h']

/-- What hexDigit answers. -/
def hexv (b : Int) : Int := if 48 ≤ b ∧ b ≤ 57 then b - 48 else if 97 ≤ b ∧ b ≤ 102 then b - 87 else if 65 ≤ b ∧ b ≤ 70 then b - 55 else 0
def hexok (b : Int) : Bool := decide ((48 ≤ b ∧ b ≤ 57) ∨ (97 ≤ b ∧ b ≤ 102) ∨ (65 ≤ b ∧ b ≤ 70))

theorem digit23 (c : Int) (w : World) : Calls Try.prog 23 #[.int .u8 c] w fun e w' => e = .returned (.bool (decide (48 ≤ c ∧ c ≤ 57))) ∧ w = w' := by
  go_enter Try.func23, Try.ntmps23
  go_wp2
  all_goals go_ret
  all_goals refine ⟨ret_bool ?_, rfl⟩
  all_goals simp_all
  omega

set_option maxHeartbeats 400000 in
theorem hex19 (c : Int) (h0 : 0 ≤ c) (h1 : c ≤ 255) (w : World) : Calls Try.prog 19 #[.int .u8 c] w fun e w' => e = .returned (.tuple #[.int .i32 (hexv c), .bool (hexok c)]) ∧ w = w' := by
  go_enter Try.func19, Try.ntmps19
  go_wp2_with (go_at_call 23; refine (digit23 _ _).mono ?_; rintro e w1 ⟨rfl, rfl⟩)
  all_goals go_ret2
  all_goals refine ⟨ret_pair ?_ ?_, rfl⟩
  all_goals first | (unfold hexv; repeat' split) | unfold hexok
  all_goals first | omega | (symm; apply decide_eq_true; omega) | (symm; apply decide_eq_false; omega)

theorem hex9 (c : Int) (h0 : 0 ≤ c) (h1 : c ≤ 255) (w : World) : Calls Try.prog 9 #[.int .u8 c] w fun e w' => e = .returned (.tuple #[.int .i32 (hexv c), .bool (hexok c)]) ∧ w = w' := by
  go_enter Try.func9, Try.ntmps9
  go_wp2_with (go_at_call 19; refine (hex19 _ h0 h1 _).mono ?_; rintro e w1 ⟨rfl, rfl⟩)
  go_ret2
  exact ⟨rfl, rfl⟩

def lo : ByteArray := ⟨#[48, 49, 50, 51, 52, 53, 54, 55, 56, 57, 97, 98, 99, 100, 101, 102]⟩
def up : ByteArray := ⟨#[48, 49, 50, 51, 52, 53, 54, 55, 56, 57, 65, 66, 67, 68, 69, 70]⟩
def at' (s : ByteArray) (k : Nat) : Int := ((s.data[k]?).getD 0).toNat

theorem found_lo : ∀ k, k < 16 → hexv (at' lo k) = k ∧ hexok (at' lo k) = true := by decide
theorem found_up : ∀ k, k < 16 → hexv (at' up k) = k ∧ hexok (at' up k) = true := by decide
theorem none_left (c : Int) (h : ∀ k, k < 16 → at' lo k ≠ c ∧ at' up k ≠ c) : hexv c = 0 ∧ hexok c = false := by
  have e : ¬ ((48 ≤ c ∧ c ≤ 57) ∨ (97 ≤ c ∧ c ≤ 102) ∨ (65 ≤ c ∧ c ≤ 70)) := by
    intro hc
    have hl : ∀ k, k < 16 → at' lo k = if k < 10 then (k : Int) + 48 else (k : Int) + 87 := by decide
    have hu : ∀ k, k < 16 → at' up k = if k < 10 then (k : Int) + 48 else (k : Int) + 55 := by decide
    rcases hc with hc | hc | hc
    · have := (h (c - 48).toNat (by omega)).1
      rw [hl _ (by omega), if_pos (by omega)] at this; omega
    · have := (h (c - 87).toNat (by omega)).1
      rw [hl _ (by omega), if_neg (by omega)] at this; omega
    · have := (h (c - 55).toNat (by omega)).2
      rw [hu _ (by omega), if_neg (by omega)] at this; omega
  refine ⟨?_, by simpa [hexok] using e⟩
  unfold hexv
  rw [if_neg (by omega), if_neg (by omega), if_neg (by omega)]

theorem idx_lo (k : Nat) (hk : k < 16) : ∀ h, ((((⟨#[48, 49, 50, 51, 52, 53, 54, 55, 56, 57, 97, 98, 99, 100, 101, 102]⟩ : ByteArray)[k]'h).toNat : Nat) : Int) = at' lo k := by
  intro h
  unfold at' lo
  rw [Array.getElem?_eq_getElem (by simpa using hk)]
  rfl
theorem idx_up (k : Nat) (hk : k < 16) : ∀ h, ((((⟨#[48, 49, 50, 51, 52, 53, 54, 55, 56, 57, 65, 66, 67, 68, 69, 70]⟩ : ByteArray)[k]'h).toNat : Nat) : Int) = at' up k := by
  intro h
  unfold at' up
  rw [Array.getElem?_eq_getElem (by simpa using hk)]
  rfl

set_option maxHeartbeats 800000 in
theorem law3 (c : Int) (h0 : 0 ≤ c) (h1 : c ≤ 255) (w : World) : Calls Try.prog 3 #[.int .u8 c] w fun e w' => e = .returned (.bool true) ∧ w = w' := by
  go_enter Try.func3, Try.ntmps3
  go_wp2_with (go_at_call 9; refine (hex9 _ h0 h1 _).mono ?_; rintro e w1 ⟨rfl, rfl⟩)
  go_loop [5] (fun i => ∃ k : Nat, k ≤ 16 ∧ i = .int .i64 k ∧ ∀ j, j < k → at' lo j ≠ c ∧ at' up j ≠ c) (fun i => 16 - (intOf i).toNat)
  case atStart => exact ⟨0, by omega, rfl, fun j hj => by omega⟩
  case round =>
    obtain ⟨k, hk, rfl, hn⟩ := hrel
    have HN : Hid (∀ j, j < k → at' lo j ≠ c ∧ at' up j ≠ c) := hn
    clear hn
    by_cases hlt : k < 16
    · have e1 := idx_lo k hlt
      have e2 := idx_up k hlt
      by_cases hL : at' lo k = c
      · obtain ⟨q1, q2⟩ := found_lo k hlt
        rw [hL] at q1 q2
        have t1 : (at' lo k == c) = true := by simpa using hL
        clear hL
        go_wp2_with fail
        go_ret
        exact ⟨ret_bool (by simp), rfl⟩
      by_cases hU : at' up k = c
      · obtain ⟨q1, q2⟩ := found_up k hlt
        rw [hU] at q1 q2
        have t1 : (at' lo k == c) = false := by simpa using hL
        have t2 : (at' up k == c) = true := by simpa using hU
        clear hL hU
        go_wp2_with fail
        go_ret
        exact ⟨ret_bool (by simp), rfl⟩
      have t1 : (at' lo k == c) = false := by simpa using hL
      have t2 : (at' up k == c) = false := by simpa using hU
      have HL : Hid (at' lo k ≠ c ∧ at' up k ≠ c) := ⟨hL, hU⟩
      clear hL hU
      go_wp2_with fail
      go_round
      case rel =>
        refine ⟨k + 1, by omega, by go_num, fun j hj => ?_⟩
        by_cases e : j = k
        · rw [e]; exact HL.out
        · exact HN.out j (by omega)
      case measure => simp [intOf]; omega
    · obtain ⟨q1, q2⟩ := none_left c (fun j hj => HN.out j (by omega))
      go_wp2_with fail
      go_ret
      exact ⟨ret_bool (by simp), rfl⟩
end Go.Proofs.Qxb6602813a
