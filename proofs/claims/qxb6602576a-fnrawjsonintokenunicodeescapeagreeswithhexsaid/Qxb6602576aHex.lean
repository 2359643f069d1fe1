import Derived.Test.Qxb6602576aTok
namespace Go.Proofs.Qxb6602576a
open Go.RowKit

/-- A hexadecimal digit. -/
def hexd (c : Int) : Bool := decide ((48 ≤ c ∧ c ≤ 57) ∨ (97 ≤ c ∧ c ≤ 102) ∨ (65 ≤ c ∧ c ≤ 70))

/-- hex answered n: not negative just when all of the first len are digits. -/
def HexSays (z : Nat → Int) (len : Nat) (n : Int) : Prop := ((∀ j, j < len → hexd (z j) = true) → 0 ≤ n) ∧ ((∃ j, j < len ∧ hexd (z j) = false) → n < 0)

theorem i32_or4 (x y : Int) (hx₀ : 0 ≤ x) (hx : x % 16 = 0) (hx₁ : x < 2147483648) (h₀ : 0 ≤ y) (h₁ : y < 16) : bits .or .i32 x y = x + y :=
  bits_join .i32 31 (by decide) wraps_i32 4 x y hx₀ hx hx₁ h₀ h₁ (by omega)

set_option maxHeartbeats 1600000 in
theorem hex40 (b off len cap : Nat) (z : Nat → Int) (w : World) (hl : len ≤ 4) (hz : ∀ j, j < len → 0 ≤ z j ∧ z j ≤ 255) (hc : ∀ j, j < len → w.cell? ⟨b, off + j, none⟩ = some (.int .u8 (z j))) :
    Calls Try.prog 40 #[.slice (some ⟨b, off, none⟩) len cap] w fun e w' => ∃ n : Int, e = .returned (.int .i32 n) ∧ HexSays z len n ∧ w = w' := by
  go_enter Try.func40, Try.ntmps40
  go_wp2_with fail
  go_loop [3, 8] (fun n i => ∃ k : Nat, k ≤ len ∧ i = .int .i64 k ∧ ∃ t : Nat, n = .int .i32 t ∧ t < 16 ^ k ∧ ∀ j, j < k → hexd (z j) = true) (fun _ i => len - (intOf i).toNat)
  case atStart => exact ⟨0, Nat.zero_le _, rfl, 0, rfl, by simp, fun j hj => by omega⟩
  case round =>
    obtain ⟨k, hk, rfl, t, rfl, ht, hall⟩ := hrel
    have HA := hide hall
    clear hall
    by_cases hlt : k < len
    · have hck := hc k hlt
      have ht' : t ≤ 4095 := by
        have : 16 ^ k ≤ 16 ^ 3 := Nat.pow_le_pow_right (by omega) (by omega)
        omega
      obtain ⟨h0, h1⟩ := hz k hlt
      generalize hzk : z k = c at *
      have HZ := hide hzk
      clear hzk hc hz
      by_cases hd : hexd c = true
      · obtain ⟨v, hv⟩ : ∃ v : Nat, (v : Int) = (if c ≤ 57 then c - 48 else if 97 ≤ c then c - 87 else c - 55) := by
          unfold hexd at hd
          simp at hd
          exact ⟨(if c ≤ 57 then c - 48 else if 97 ≤ c then c - 87 else c - 55).toNat, by split <;> (try split) <;> omega⟩
        have hc' : (48 ≤ c ∧ c ≤ 57) ∨ (97 ≤ c ∧ c ≤ 102) ∨ (65 ≤ c ∧ c ≤ 70) := by simpa [hexd] using hd
        have hv16 : v < 16 := by
          rcases hc' with h | h | h
          · rw [if_pos h.2] at hv; omega
          · rw [if_neg (by omega), if_pos h.1] at hv; omega
          · rw [if_neg (by omega), if_neg (by omega)] at hv; omega
        have hor : bits BinOp.or IntKind.i32 ((t : Int) * 16) (v : Int) = ((t * 16 + v : Nat) : Int) := by
          rw [i32_or4 _ _ (by omega) (by omega) (by omega) (by omega) (by omega)]; omega
        have hpw : t * 16 + v < 16 ^ (k + 1) := by rw [Nat.pow_succ]; omega
        have HO := hide hor
        have HP := hide hpw
        have HV := hide hv
        have HD := hide hd
        clear hor hpw hv hd
        rcases hc' with ⟨ha, hb⟩ | ⟨ha, hb⟩ | ⟨ha, hb⟩
        · go_wp2_with fail
          go_round
          case rel =>
            have hv := unhide HV
            rw [if_pos hb] at hv
            refine ⟨k + 1, by omega, by go_num, t * 16 + v, ?_, unhide HP, fun j hj => ?_⟩
            · rw [← hv, unhide HO]
            · by_cases e : j = k
              · rw [e, unhide HZ]; exact unhide HD
              · exact unhide HA j (by omega)
          case measure => simp [intOf]; omega
        · go_wp2_with fail
          go_round
          case rel =>
            have hv := unhide HV
            rw [if_neg (by omega), if_pos ha] at hv
            refine ⟨k + 1, by omega, by go_num, t * 16 + v, ?_, unhide HP, fun j hj => ?_⟩
            · rw [← hv, unhide HO]
            · by_cases e : j = k
              · rw [e, unhide HZ]; exact unhide HD
              · exact unhide HA j (by omega)
          case measure => simp [intOf]; omega
        · go_wp2_with fail
          go_round
          case rel =>
            have hv := unhide HV
            rw [if_neg (by omega), if_neg (by omega)] at hv
            refine ⟨k + 1, by omega, by go_num, t * 16 + v, ?_, unhide HP, fun j hj => ?_⟩
            · rw [← hv, unhide HO]
            · by_cases e : j = k
              · rw [e, unhide HZ]; exact unhide HD
              · exact unhide HA j (by omega)
          case measure => simp [intOf]; omega
      · have hd' : hexd c = false := by simpa using hd
        have hn : ¬ ((48 ≤ c ∧ c ≤ 57) ∨ (97 ≤ c ∧ c ≤ 102) ∨ (65 ≤ c ∧ c ≤ 70)) := by simpa [hexd] using hd'
        have HS : Hid (HexSays z len (-1)) := ⟨fun h => (by have := h k hlt; rw [unhide HZ, hd'] at this; cases this), fun _ => by omega⟩
        clear hd hd'
        go_wp2_with fail
        all_goals first
          | (exfalso; omega)
          | (go_ret; exact ⟨-1, rfl, unhide HS, rfl⟩)
    · obtain rfl : k = len := by omega
      have HS : Hid (HexSays z k t) := ⟨fun _ => by omega, fun ⟨j, hj, hf⟩ => (by rw [unhide HA j hj] at hf; cases hf)⟩
      clear hc hz
      go_wp2_with fail
      go_ret
      exact ⟨t, rfl, unhide HS, rfl⟩

theorem hex20 (b off len cap : Nat) (z : Nat → Int) (w : World) (hl : len ≤ 4) (hz : ∀ j, j < len → 0 ≤ z j ∧ z j ≤ 255) (hc : ∀ j, j < len → w.cell? ⟨b, off + j, none⟩ = some (.int .u8 (z j))) :
    Calls Try.prog 20 #[.slice (some ⟨b, off, none⟩) len cap] w fun e w' => ∃ n : Int, e = .returned (.int .i32 n) ∧ HexSays z len n ∧ w = w' := by
  have HZ := hide hz
  have HC := hide hc
  clear hz hc
  go_enter Try.func20, Try.ntmps20
  go_wp2_with fail
  refine (hex40 b off len cap z w hl (unhide HZ) (unhide HC)).mono ?_
  rintro e w1 ⟨n, rfl, hs, rfl⟩
  go_wp2_with fail
  go_ret
  exact ⟨n, rfl, hs, rfl⟩

/-- After a backslash: u. -/
theorem esc27 (B : Nat) (v0 v1 v2 hv mv cv tv pv : Value) (w : World) (hB : w.heap[B]? = some (.cells #[v0, v1, v2, hv, mv, cv, tv, pv] 56 (0, 0))) :
    Calls Try.prog 27 #[.pointer (some ⟨B, 0, none⟩), .int .u8 7, .int .u8 117] w fun e w' => e = .returned (.int .u8 8) ∧
      w'.heap[B]? = some (.cells #[v0, v1, v2, .int .i64 4, mv, cv, tv, pv] 56 (0, 0)) ∧ w.grownBy w' (some B) := by
  have cB := fun j => cell_of_row w _ j _ _ _ hB
  have fB := fun j => frozen_of_row w _ j _ _ hB
  have hgs := grown_set w B 3 (.int .i64 4)
  have hB' := heap_setCell_same w B 3 _ _ (.int .i64 4) hB
  simp at hB'
  have HB' := hide hB'
  clear hB' hB
  go_enter Try.func27, Try.ntmps27
  go_wp2
  go_ret
  exact ⟨rfl, unhide HB', hgs⟩

def uniStep (h : Int) : Int := if h = 1 then 6 else 8

set_option maxHeartbeats 800000 in
/-- A byte of a unicode escape that is no digit. -/
theorem uni27_no (B : Nat) (v0 v1 v2 mv cv tv pv : Value) (h d : Int) (w : World) (d0 : 0 ≤ d) (d1 : d ≤ 255) (hd : hexd d = false) (hB : w.heap[B]? = some (.cells #[v0, v1, v2, .int .i64 h, mv, cv, tv, pv] 56 (0, 0))) :
    Calls Try.prog 27 #[.pointer (some ⟨B, 0, none⟩), .int .u8 8, .int .u8 d] w fun e w' => e = .returned (.int .u8 19) ∧ w.grownBy w' none := by
  have hBl := lt_of_block hB
  have gA := World.grownBy_alloc w (.cells #[.int .u8 d] 5) none
  have hBA := (gA.block B hBl (by simp)).trans hB
  have hcA : ∀ j, j < 1 → (w.alloc (.cells #[.int .u8 d] 5)).cell? ⟨w.heap.size, 0 + j, none⟩ = some (.int .u8 ((fun _ => d) j)) := by
    intro j hj
    obtain rfl : j = 0 := by omega
    simp
  have HB := hide hB
  have HBA := hide hBA
  have HCA := hide hcA
  have HD := hide hd
  clear hB hBA hcA hd
  go_enter Try.func27, Try.ntmps27
  go_wp2_with fail
  refine (hex40 w.heap.size 0 1 1 (fun _ => d) _ (by omega) (fun _ _ => ⟨d0, d1⟩) (unhide HCA)).mono ?_
  rintro e w1 ⟨n, rfl, hs, rfl⟩
  have hBA := unhide HBA
  clear HB HBA HCA
  generalize w.alloc (.cells #[.int .u8 d] 5) = wA at *
  have cB := fun j => cell_of_row wA _ j _ _ _ hBA
  have fB := fun j => frozen_of_row wA _ j _ _ hBA
  have HBA := hide hBA
  clear hBA
  have hn : n < 0 := hs.2 ⟨0, by omega, unhide HD⟩
  clear hs HD
  go_wp2_with fail
  go_ret
  exact ⟨rfl, gA⟩

set_option maxHeartbeats 800000 in
/-- A digit of a unicode escape, h digits still to come. -/
theorem uni27_yes (B : Nat) (v0 v1 v2 mv cv tv pv : Value) (h d : Int) (w : World) (h0 : 1 ≤ h) (h4 : h ≤ 4) (d0 : 0 ≤ d) (d1 : d ≤ 255) (hd : hexd d = true) (hB : w.heap[B]? = some (.cells #[v0, v1, v2, .int .i64 h, mv, cv, tv, pv] 56 (0, 0))) :
    Calls Try.prog 27 #[.pointer (some ⟨B, 0, none⟩), .int .u8 8, .int .u8 d] w fun e w' => e = .returned (.int .u8 (uniStep h)) ∧ w'.heap[B]? = some (.cells #[v0, v1, v2, .int .i64 (h - 1), mv, cv, tv, pv] 56 (0, 0)) ∧ w.grownBy w' (some B) := by
  have hBl := lt_of_block hB
  have gA := World.grownBy_alloc w (.cells #[.int .u8 d] 5) none
  have hBA := (gA.block B hBl (by simp)).trans hB
  have hcA : ∀ j, j < 1 → (w.alloc (.cells #[.int .u8 d] 5)).cell? ⟨w.heap.size, 0 + j, none⟩ = some (.int .u8 ((fun _ => d) j)) := by
    intro j hj
    obtain rfl : j = 0 := by omega
    simp
  have HB := hide hB
  have HBA := hide hBA
  have HCA := hide hcA
  have HD := hide hd
  clear hB hBA hcA hd
  go_enter Try.func27, Try.ntmps27
  go_wp2_with fail
  refine (hex40 w.heap.size 0 1 1 (fun _ => d) _ (by omega) (fun _ _ => ⟨d0, d1⟩) (unhide HCA)).mono ?_
  rintro e w1 ⟨n, rfl, hs, rfl⟩
  have hBA := unhide HBA
  clear HB HBA HCA
  generalize w.alloc (.cells #[.int .u8 d] 5) = wA at *
  have cB := fun j => cell_of_row wA _ j _ _ _ hBA
  have fB := fun j => frozen_of_row wA _ j _ _ hBA
  have HBA := hide hBA
  clear hBA
  have hn : 0 ≤ n := hs.1 (fun _ _ => unhide HD)
  have hgs := grown_set wA B 3 (.int .i64 (h - 1))
  have hB' := heap_setCell_same wA B 3 _ _ (.int .i64 (h - 1)) (unhide HBA)
  simp at hB'
  have HB' := hide hB'
  have gw : w.grownBy (wA.setCell ⟨B, 3, none⟩ (.int .i64 (h - 1))) (some B) := World.grownBy.trans ⟨gA.os, gA.tape, gA.output, gA.size, fun i hi _ => gA.block i hi (by simp)⟩ hgs
  clear hs HD hB' hgs
  by_cases h1 : h = 1
  · have e1 : ((h - 1 : Int) == 0) = true := beq_iff_eq.2 (by omega)
    have e2 : uniStep h = 6 := if_pos h1
    clear h1
    go_wp2_with fail
    go_ret
    exact ⟨ret_int e2.symm, unhide HB', gw⟩
  · have e1 : ((h - 1 : Int) == 0) = false := beq_eq_false_iff_ne.2 (by omega)
    have e2 : uniStep h = 8 := if_neg h1
    clear h1
    go_wp2_with fail
    go_ret
    exact ⟨ret_int e2.symm, unhide HB', gw⟩

theorem esc16 (B : Nat) (v0 v1 v2 hv mv cv tv pv : Value) (w : World) (hB : w.heap[B]? = some (.cells #[v0, v1, v2, hv, mv, cv, tv, pv] 56 (0, 0))) :
    Calls Try.prog 16 #[.pointer (some ⟨B, 0, none⟩), .int .u8 7, .int .u8 117] w fun e w' => e = .returned (.int .u8 8) ∧
      w'.heap[B]? = some (.cells #[v0, v1, v2, .int .i64 4, mv, cv, tv, pv] 56 (0, 0)) ∧ w.grownBy w' (some B) := by
  have HB := hide hB
  clear hB
  go_enter Try.func16, Try.ntmps16
  go_wp2_with fail
  refine (esc27 B v0 v1 v2 hv mv cv tv pv w (unhide HB)).mono ?_
  rintro e w1 ⟨rfl, hr, hg⟩
  have HR := hide hr
  clear hr
  go_wp2_with fail
  go_ret
  exact ⟨rfl, unhide HR, hg⟩

theorem uni16_no (B : Nat) (v0 v1 v2 mv cv tv pv : Value) (h d : Int) (w : World) (d0 : 0 ≤ d) (d1 : d ≤ 255) (hd : hexd d = false) (hB : w.heap[B]? = some (.cells #[v0, v1, v2, .int .i64 h, mv, cv, tv, pv] 56 (0, 0))) :
    Calls Try.prog 16 #[.pointer (some ⟨B, 0, none⟩), .int .u8 8, .int .u8 d] w fun e w' => e = .returned (.int .u8 19) ∧ w.grownBy w' none := by
  have HB := hide hB
  have HD := hide hd
  clear hB hd
  go_enter Try.func16, Try.ntmps16
  go_wp2_with fail
  refine (uni27_no B v0 v1 v2 mv cv tv pv h d w d0 d1 (unhide HD) (unhide HB)).mono ?_
  rintro e w1 ⟨rfl, hg⟩
  go_wp2_with fail
  go_ret
  exact ⟨rfl, hg⟩

theorem uni16_yes (B : Nat) (v0 v1 v2 mv cv tv pv : Value) (h d : Int) (w : World) (h0 : 1 ≤ h) (h4 : h ≤ 4) (d0 : 0 ≤ d) (d1 : d ≤ 255) (hd : hexd d = true) (hB : w.heap[B]? = some (.cells #[v0, v1, v2, .int .i64 h, mv, cv, tv, pv] 56 (0, 0))) :
    Calls Try.prog 16 #[.pointer (some ⟨B, 0, none⟩), .int .u8 8, .int .u8 d] w fun e w' => e = .returned (.int .u8 (uniStep h)) ∧ w'.heap[B]? = some (.cells #[v0, v1, v2, .int .i64 (h - 1), mv, cv, tv, pv] 56 (0, 0)) ∧ w.grownBy w' (some B) := by
  have HB := hide hB
  have HD := hide hd
  clear hB hd
  go_enter Try.func16, Try.ntmps16
  go_wp2_with fail
  refine (uni27_yes B v0 v1 v2 mv cv tv pv h d w h0 h4 d0 d1 (unhide HD) (unhide HB)).mono ?_
  rintro e w1 ⟨rfl, hr, hg⟩
  have HR := hide hr
  clear hr
  go_wp2_with fail
  go_ret
  exact ⟨rfl, unhide HR, hg⟩
end Go.Proofs.Qxb6602576a
