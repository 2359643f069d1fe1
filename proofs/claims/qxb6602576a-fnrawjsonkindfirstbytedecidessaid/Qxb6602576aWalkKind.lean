import Derived.Test.Qxb6602576aKind
namespace Go.Proofs.Qxb6602576a
open Go.RowKit

theorem Try.info5 : (Try.prog.info? 5).map (fun i => (i.zero, i.size, i.bytes)) = some (some (.int .u8 0), 1, 1) := by kernel_rfl
theorem Try.size5 : (Try.prog.info? 5).map (·.size) = some 1 := by kernel_rfl

theorem law6_out (a0 a1 : Option Addr) (len0 cap0 len1 cap1 : Nat) (w : World) (h0 : len0 ≤ maxLen) (h1 : len1 ≤ maxLen) (h : 1048576 < len0 + len1 ∨ len0 = 0) :
    Calls Try.prog 6 #[.slice a0 len0 cap0, .slice a1 len1 cap1] w fun e w' => e = .returned (.bool true) ∧ Below w.heap.size w w' := by
  by_cases hb : len0 + len1 ≤ 1048576
  · have hz : len0 = 0 := by omega
    subst hz
    have hd : decide (0 + len1 ≤ 1048576) = true := by simpa using hb
    have h1' : len1 ≤ 1048576 := by omega
    go_enter Try.func6, Try.ntmps6
    go_wp2_with fail
    refine (bytes21 a0 a1 0 cap0 len1 cap1 w h0 h1).mono ?_
    rintro e w1 ⟨rfl, rfl⟩
    go_wp2_with fail
    go_ret
    exact ⟨rfl, Below.refl _ _⟩
  · have hd : decide (len0 + len1 ≤ 1048576) = false := by simpa using hb
    go_enter Try.func6, Try.ntmps6
    go_wp2_with fail
    refine (bytes21 a0 a1 len0 cap0 len1 cap1 w h0 h1).mono ?_
    rintro e w1 ⟨rfl, rfl⟩
    go_wp2_with fail
    go_ret
    exact ⟨rfl, Below.refl _ _⟩

set_option maxHeartbeats 1000000 in
theorem law6_in (b off : Nat) (a1 : Option Addr) (len0 cap0 len1 cap1 : Nat) (z0 : Nat → Int) (w : World) (hpos : 0 < len0) (hb : len0 + len1 ≤ 1048576)
    (hc0 : ∀ j, j < len0 → w.cell? ⟨b, off + j, none⟩ = some (.int .u8 (z0 j)))
    (hc1 : 0 < len1 → ∃ (b1 off1 : Nat) (z1 : Nat → Int), a1 = some ⟨b1, off1, none⟩ ∧ ∀ j, j < len1 → w.cell? ⟨b1, off1 + j, none⟩ = some (.int .u8 (z1 j))) :
    Calls Try.prog 6 #[.slice (some ⟨b, off, none⟩) len0 cap0, .slice a1 len1 cap1] w fun e w' => e = .returned (.bool true) ∧ Below w.heap.size w w' := by
  have h0 : len0 ≤ maxLen := by unfold maxLen; omega
  have h1 : len1 ≤ maxLen := by unfold maxLen; omega
  have hd : decide (len0 + len1 ≤ 1048576) = true := by simpa using hb
  have hl0 : ((len0 : Int) == 0) = false := by simp; omega
  have h0' : len0 ≤ 1048576 := by omega
  have h1' : len1 ≤ 1048576 := by omega
  have hx1 : decide ((1048576 : Int) < (len0 : Int)) = false := by simp; omega
  have hx2 : decide ((1048576 : Int) < (len1 : Int)) = false := by simp; omega
  have hx3 : decide ((1048576 : Int) < (len0 : Int) + (len1 : Int)) = false := by simp; omega
  have hneq := fun wx => run_neq_slice_nil_any (P := Try.prog) wx 22 5 (some ⟨b, off, none⟩) len0 cap0 0 0 Try.underlying22
  go_enter Try.func6, Try.ntmps6
  go_wp2_with fail
  refine (bytes21 _ a1 len0 cap0 len1 cap1 w h0 h1).mono ?_
  rintro e w1 ⟨rfl, rfl⟩
  have hv1 : ∀ j, j < len0 → (Value.int .u8 (z0 j)).oneCell' = true := fun _ _ => rfl
  have hbw : b < w.heap.size := World.block_lt_of_cell? w _ (hc0 0 hpos)
  go_wp2_with (first
    | (at_make; refine wpList_make_is rfl _ _ 22 rfl 5 (.int .u8 0) 1 Try.underlying22 Try.info5 rfl .i64 .i64 _ _ len0 rfl rfl rfl rfl (by omega) (by omega) ?_; intro w1 hr1 hg1 hs1)
    | (refine wpList_copy_is rfl (.tmp 36) (.tmp 37) 22 22 rfl 5 Try.underlying22 Try.size5 _ len0 _ _ _ rfl rfl 5 _ (fun j => .int .u8 (z0 j)) hr1 ?_ (fun _ _ => rfl) ?_))
  · intro j hj
    rw [addp]
    exact hg1.cell (hc0 j hj) (by simp)
  intro w2 hr2 hg2 hs2
  have bel2 : Below w.heap.size w w2 := ((Below.refl _ _).grown hg1 (Nat.le_refl _) (by simp)).grown hg2 (by omega) (by simp)
  clear hr1 hg1 hg2 hs1 hneq
  go_wp2_with (at_make; refine wpList_make_is rfl _ _ 22 rfl 5 (.int .u8 0) 1 Try.underlying22 Try.info5 rfl .i64 .i64 _ _ (len0 + len1) rfl rfl (by omega) (by omega) (by omega) (by omega) ?_; intro w3 hr3 hg3 hs3)
  have hr2' := rowIs_grown hr2 hg3 (by simp)
  have bel3 : Below w.heap.size w w3 := bel2.grown hg3 (by omega) (by simp)
  have bel3' : Below (w.heap.size + 1) w2 w3 := (Below.refl _ _).grown hg3 (by omega) (by simp)
  rw [hs2] at hr3
  clear hg3 hr2 bel2 bel3'
  go_loopw [7] (fun i wr => ∃ k : Nat, k ≤ len0 ∧ i = .int .i64 k ∧ wr.rowIs w.heap.size 5 len0 (fun j => .int .u8 (z0 j)) ∧ (∃ f, wr.rowIs (w.heap.size + 1) 5 (len0 + len1) f ∧ (0 < k → f 0 = .int .u8 (z0 0))) ∧ Below w.heap.size w wr) (fun i _ => len0 - (intOf i).toNat)
  case atStart => exact ⟨0, Nat.zero_le _, rfl, hr2', ⟨_, hr3, fun h => absurd h (by omega)⟩, bel3⟩
  case round =>
    obtain ⟨k, hk, rfl, hra, ⟨f, hrb, hf0⟩, belr⟩ := hrel
    clear hr2' hr3 bel3 hs2 hs3 w2 w3
    by_cases hlt : k < len0
    · have hca := hra.cell hlt
      have hcb := hrb.cell (i := k) (by omega)
      have hfb := hrb.frozen k
      go_wp2
      go_roundw
      case rel => 
        refine ⟨k + 1, by omega, by go_num, hra.setOther (by simp) _, ⟨_, hrb.set k _, fun _ => ?_⟩, belr.setCell (by simp) _⟩
        show (if 0 = k then _ else _) = _
        split
        · next h => subst h; rfl
        · exact hf0 (by omega)
      case measure => simp [intOf]; omega
    · have hf := hf0 (by omega)
      clear hf0
      go_wp2_with fail
      go_loopw [8] (fun i wr => ∃ k : Nat, k ≤ len1 ∧ i = .int .i64 k ∧ wr.rowIs w.heap.size 5 len0 (fun j => .int .u8 (z0 j)) ∧ (∃ f, wr.rowIs (w.heap.size + 1) 5 (len0 + len1) f ∧ f 0 = .int .u8 (z0 0)) ∧ Below w.heap.size w wr) (fun i _ => len1 - (intOf i).toNat)
      case atStart => exact ⟨0, Nat.zero_le _, rfl, hra, ⟨_, hrb, hf⟩, belr⟩
      case round =>
        clear hra hrb hf belr
        obtain ⟨k1, hk1, rfl, hra, ⟨f, hrb, hf0⟩, belr⟩ := hrel
        by_cases hlt1 : k1 < len1
        · obtain ⟨b1, off1, z1, rfl, hz1⟩ := hc1 (by omega)
          have hcs : wr.cell? ⟨b1, off1 + k1, none⟩ = some (.int .u8 (z1 k1)) := cell_later belr (hz1 k1 hlt1)
          have hcb := hrb.cell (i := len0 + k1) (by omega)
          have hfb := hrb.frozen (len0 + k1)
          have HF : Hid (f 0 = .int .u8 (z0 0)) := hf0
          clear hf0
          go_wp2
          go_roundw
          case rel => 
            refine ⟨k1 + 1, by omega, by go_num, hra.setOther (by simp) _, ⟨_, hrb.set _ _, ?_⟩, belr.setCell (by simp) _⟩
            show (if 0 = len0 + k1 then _ else f 0) = _
            rw [if_neg (by omega)]; exact HF.out
          case measure => simp [intOf]; omega
        · have hca := hra.cell hpos
          have hcb := hrb.cell (i := 0) (by omega)
          rw [hf0] at hcb
          have hkn := kindOf_ne (z0 0)
          have hkb : (kindOf (z0 0) != 0) = true := by simpa using hkn
          clear hf0 hra hrb hkn hc1
          go_wp2_with fail
          refine (kind13 _ 0 len0 len0 (z0 0) _ hpos hca).mono ?_
          rintro e w4 ⟨rfl, hb4⟩
          have hca4 := cell_later hb4 hca
          have hcb4 := cell_later hb4 hcb
          have bel4 := belr.trans (hb4.mono belr.size)
          clear hca hcb hb4 belr
          have hl1 : (1 : Int) ≤ (len0 : Int) := by omega
          go_wp2_with fail
          refine (kind13 _ 0 1 len0 (z0 0) _ (by omega) hca4).mono ?_
          rintro e w5 ⟨rfl, hb5⟩
          have hcb5 := cell_later hb5 hcb4
          have bel5 := bel4.trans (hb5.mono bel4.size)
          clear hca4 hcb4 hb5 bel4
          go_wp2_with fail
          refine (kind13 _ 0 (len0 + len1) (len0 + len1) (z0 0) _ (by omega) hcb5).mono ?_
          rintro e w6 ⟨rfl, hb6⟩
          have bel6 := bel5.trans (hb6.mono bel5.size)
          go_wp2_with fail
          go_ret
          exact ⟨ret_bool (by simp), bel6⟩
end Go.Proofs.Qxb6602576a
