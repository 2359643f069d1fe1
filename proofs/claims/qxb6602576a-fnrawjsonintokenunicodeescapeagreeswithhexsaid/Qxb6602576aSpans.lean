import Derived.Test.Qxb6602576aGet
namespace Go.Proofs.Qxb6602576a
open Go.RowKit

theorem ret_slice {a : Option Addr} {l l' c : Nat} (h : l = l') : Ending.returned (.slice a l c) = .returned (.slice a l' c) := by rw [h]

theorem even38 (a : Option Addr) (l c : Nat) (w : World) (hl : l ≤ 1048576) (hlc : l ≤ c) :
    Calls Try.prog 38 #[.slice a l c] w fun e w' => e = .returned (.slice a (2 * (l / 2)) c) ∧ w = w' := by
  go_enter Try.func38, Try.ntmps38
  go_wp2
  go_ret
  exact ⟨ret_slice (by omega), rfl⟩

theorem take_pairs (cur : Array Value) (n i j : Nat) (zp : Nat → Int) (h : cur.toList.take (n * 2) = pairs zp n) (hij : i = j) (hj : j < 2 * n) : cur[i]? = some (.int .i64 (zp j)) := by
  subst hij
  have e := congrArg (fun l => l[i]?) h
  simp only [pairs, List.getElem?_take, List.getElem?_map] at e
  rw [if_pos (by omega), List.getElem?_range (by omega)] at e
  simpa using e

set_option maxHeartbeats 1600000 in
theorem spans37 (base B N : Nat) (pv : Value) (n : Nat) (zp : Nat → Int) (w : World) (hn : n ≤ 1048576) (hc : w.cell? ⟨B, 7, none⟩ = some (.pointer (some ⟨N, 0, none⟩))) (hN : w.cell? ⟨N, 1, none⟩ = some pv) (hp : w.ownsRow base 66 2 pv n (pairs zp n)) :
    Calls Try.prog 37 #[.pointer (some ⟨B, 0, none⟩)] w fun e w' => ∃ g cap, e = .returned (.slice (some ⟨g, 0, none⟩) (2 * n) cap) ∧ Rd .i64 w' (some ⟨g, 0, none⟩) (2 * n) zp ∧ w.grownBy w' none := by
  have hBl : B < w.heap.size := World.block_lt_of_cell? w _ hc
  have hNl : N < w.heap.size := World.block_lt_of_cell? w _ hN
  obtain ⟨i0, hi0, hz0, hz1, hz2⟩ := info_parts Try.info3
  obtain ⟨a, cp, rfl⟩ : ∃ a cp, pv = .slice a n cp := by
    rcases hp.2 with ⟨rfl, rfl⟩ | ⟨g, cap, cur, rfl, _⟩
    · exact ⟨_, _, rfl⟩
    · exact ⟨_, _, rfl⟩
  go_enter Try.func37, Try.ntmps37
  go_wp2_with (at_make; refine wpList_make_own _ rfl _ _ 23 rfl w.heap.size 3 i0 (.int .i64 0) 1 Try.underlying23 hi0 hz0 hz1 .i64 .i64 _ (2 * n) rfl rfl (by omega) (by rw [hz2]; omega) (by unfold maxLen; omega) (by omega) ?_; intro w1 hown hg1; have hc1 := hg1.cell hc (by simp); have hN1 := hg1.cell hN (by simp))
  have hp1 := hp.kept hg1 (by cases hv : (Value.slice a n cp).ownBlock <;> simp)
  clear hc hN hc1 hN1 hp
  go_loopw [3, 29] (fun v i wr => ∃ k : Nat, k ≤ n ∧ i = .int .i64 k ∧ v = .slice (some ⟨w.heap.size, 0, none⟩) (2 * k) (2 * n) ∧ wr.ownsRow w.heap.size 3 1 (.slice (some ⟨w.heap.size, 0, none⟩) (2 * k) (2 * n)) (2 * k) (pairs zp k) ∧ w1.grownBy wr (some w.heap.size)) (fun _ i _ => n - (intOf i).toNat)
  case atStart => exact ⟨0, Nat.zero_le _, rfl, rfl, hown, World.grownBy.refl _ _⟩
  case round =>
    obtain ⟨k, hk, rfl, rfl, hor, hgr⟩ := hrel
    by_cases hlt : k < n
    · rcases hp1.2 with ⟨_, h⟩ | ⟨g, cap, cur, hv, hbg, hcur, h1, h2, hsz, htk⟩
      · omega
      simp at hv
      obtain ⟨rfl, rfl⟩ := hv
      have hq0 : cur[k * 2]? = some (.int .i64 (zp (2 * k))) := take_pairs cur n (k * 2) (2 * k) zp htk (by omega) (by omega)
      have hq1 : cur[k * 2 + 1]? = some (.int .i64 (zp (2 * k + 1))) := take_pairs cur n (k * 2 + 1) (2 * k + 1) zp htk (by omega) (by omega)
      have hgne : some g ≠ some w.heap.size := by
        intro e
        rcases hown.2 with ⟨h, _⟩ | ⟨g', cap', cur', hv', _, hcur', _⟩
        · cases h
        · simp at hv' e
          rw [e] at hcur
          rw [← hv'.1, hcur] at hcur'
          simp at hcur'
      have hcur' := (hgr.block g (lt_of_block hcur) hgne).trans hcur
      have c0 := (cell_of_row wr _ (k * 2) _ _ _ hcur').trans hq0
      have c1 := (cell_of_row wr _ (k * 2 + 1) _ _ _ hcur').trans hq1
      have hgl := lt_of_block hcur'
      have hlti : (k : Int) < (n : Int) := by omega
      clear hcur hcur' hq0 hq1 hsz htk hp1 hown
      go_wp2_with (at_builtin; refine wpList_append_fits _ rfl _ _ 23 rfl w.heap.size 3 i0 1 Try.underlying23 hi0 hz1 w.heap.size (2 * k) (2 * n) _ rfl ((hor.alloc _).alloc _) ⟨wr.heap.size + 1, 0, none⟩ 2 2 [.int .i64 (zp (2 * k)), .int .i64 (zp (2 * k + 1))] rfl rfl (World.news_of_block (cs := #[.int .i64 (zp (2 * k)), .int .i64 (zp (2 * k + 1))]) (t := 3) (fr := (0, 0)) (heap_alloc2_new wr _ _)) (by simp [Value.oneCell']) (by omega) ?_; intro w2 hor2 hg2)
      have R : w1.grownBy w2 (some w.heap.size) := by
        have e1 := World.grownBy_alloc wr (.cells #[.int .i64 (zp (2 * k)), .int .i64 (zp (2 * k + 1))] 66) (some w.heap.size)
        have e2 := World.grownBy_alloc (wr.alloc (.cells #[.int .i64 (zp (2 * k)), .int .i64 (zp (2 * k + 1))] 66)) (.cells #[.int .i64 (zp (2 * k)), .int .i64 (zp (2 * k + 1))] 3) (some w.heap.size)
        exact ((hgr.trans e1).trans e2).trans hg2
      clear hg2 hor
      go_roundw
      case rel =>
        refine ⟨k + 1, by omega, by go_num, ?_, ?_, R⟩
        · rw [show 2 * (k + 1) = 2 * k + 2 by omega]
        · rw [show 2 * (k + 1) = 2 * k + 2 by omega, pairs_succ]
          exact hor2
      case measure => simp [intOf]; omega
    · obtain rfl : k = n := by omega
      have gw : w.grownBy wr none := hg1.andThen hgr (by simp)
      clear hp1 hown
      go_wp2_with fail
      go_ret
      refine ⟨_, _, rfl, ?_, gw⟩
      rcases hor.2 with ⟨h, _⟩ | ⟨g', cap', cur', hv', _, hcur', _, _, _, htk⟩
      · cases h
      simp at hv'
      refine .inr ⟨_, rfl, fun _ => ⟨_, 0, rfl, fun j hj => ?_⟩⟩
      rw [← hv'.1] at hcur'
      rw [cell_of_row wr _ _ _ _ _ hcur', Nat.zero_add]
      exact take_pairs cur' k j j zp (by simpa [Nat.mul_comm] using htk) rfl (by omega)
end Go.Proofs.Qxb6602576a
