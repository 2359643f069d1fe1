import Derived.Test.Qxb6602576aFields
import Derived.Deep.RegionHeld3
import Derived.Deep.RegionLaw
import Derived.Deep.AppendLies
import Derived.StillTactics
import Derived.Laws.Pointers
import Derived.Deep.DrawnRows
namespace Go.Proofs.Qxb6602576a
open Go.RowKit
attribute [local go_sem ↓] Go.wp_at_zero Go.wp_at_succ

theorem Try.info66 : (Try.prog.info? 66).map (fun i => (i.zero, i.size, i.bytes)) = some (some (.agg #[.int .i64 0, .int .i64 0]), 2, 16) := by kernel_rfl

variable (ov : Value) (nx : Int) (wd : ByteArray) (hx : Int) (nm : Bool) (ck at' : Int) (sv : Value) (pa : Option Addr) (pl pc : Nat) (ls : Int)

/-- The checker without notes. -/
theorem new24_bare (oa : Option Addr) (ol oc : Nat) (sa : Option Addr) (sl sc : Nat) (w : World) :
    Calls Try.prog 24 #[.slice oa ol oc, .int .u8 nx, .string wd, .int .i64 hx, .bool nm, .int .i64 ck, .int .i64 at', .bool false, .slice sa sl sc, .slice pa pl pc, .int .i64 ls] w fun e w' =>
      e = .returned (.pointer (some ⟨w.heap.size, 0, none⟩)) ∧ w'.heap[w.heap.size]? = some (.cells #[.slice oa ol oc, .int .u8 nx, .string wd, .int .i64 hx, .bool nm, .int .i64 ck, .int .i64 at', .pointer none] 56 (0, 0)) ∧ w.grownBy w' none := by
  go_enter Try.func24, Try.ntmps24
  go_wp2
  go_ret
  exact ⟨rfl, heap_alloc_new _ _, World.grownBy_alloc _ _ _⟩

def pairs (zp : Nat → Int) (k : Nat) : List Value := (List.range (2 * k)).map (fun j => .int .i64 (zp j))

theorem pairs_succ (zp : Nat → Int) (k : Nat) : pairs zp (k + 1) = pairs zp k ++ [.int .i64 (zp (2 * k)), .int .i64 (zp (2 * k + 1))] := by
  unfold pairs
  rw [show 2 * (k + 1) = 2 * k + 1 + 1 by omega, List.range_succ, List.range_succ]
  simp

/-- The block of an owned row is no block of another type. -/
theorem ownBlock_ne {w : World} {base : Nat} {e t' : TypeId} {size n B : Nat} {v : Value} {xs : List Value} {cs : Array Value} {fr : Nat × Nat} (h : w.ownsRow base e size v n xs) (hB : w.heap[B]? = some (.cells cs t' fr)) (hne : t' ≠ e) : v.ownBlock ≠ some B := by
  intro h1
  rcases h.2 with ⟨rfl, _⟩ | ⟨g, cap, cur, rfl, _, hgg, _⟩
  · simp [Value.ownBlock] at h1
  · simp [Value.ownBlock] at h1
    rw [h1, hB] at hgg
    simp at hgg
    exact hne hgg.2.1

theorem new_step {w wr w1 : World} {pv nv s0 l0 : Value} {k : Nat} {xs ys : List Value} {cb : Array Value} {o : Obj}
    (hg : w.grownBy wr none) (hB : wr.heap[w.heap.size]? = some (.cells cb 56 (0, 0))) (hN : wr.heap[w.heap.size + 1]? = some (.cells #[s0, pv, l0] 64 (0, 0))) (hown : wr.ownsRow w.heap.size 66 2 pv k xs)
    (hgrow : (wr.alloc o).drew.grownBy w1 pv.ownBlock) (hown1 : w1.ownsRow w.heap.size 66 2 nv (k + 1) ys) :
    (w1.setCell ⟨w.heap.size + 1, 1, none⟩ nv).heap[w.heap.size]? = some (.cells cb 56 (0, 0)) ∧
    (∃ pv, (w1.setCell ⟨w.heap.size + 1, 1, none⟩ nv).heap[w.heap.size + 1]? = some (.cells #[s0, pv, l0] 64 (0, 0)) ∧ (w1.setCell ⟨w.heap.size + 1, 1, none⟩ nv).ownsRow w.heap.size 66 2 pv (k + 1) ys) ∧
    w.grownBy (w1.setCell ⟨w.heap.size + 1, 1, none⟩ nv) none := by
  have hB1 : w1.heap[w.heap.size]? = some (.cells cb 56 (0, 0)) :=
    (hgrow.block _ (by have := lt_of_block hB; simp; omega) (Ne.symm (ownBlock_ne hown hB (by decide)))).trans ((Below.heap_alloc wr o _ (lt_of_block hB)).trans hB)
  have hN1 : w1.heap[w.heap.size + 1]? = some (.cells #[s0, pv, l0] 64 (0, 0)) :=
    (hgrow.block _ (by have := lt_of_block hN; simp; omega) (Ne.symm (ownBlock_ne hown hN (by decide)))).trans ((Below.heap_alloc wr o _ (lt_of_block hN)).trans hN)
  have gs := grown_set w1 (w.heap.size + 1) 1 nv
  refine ⟨(gs.block _ (lt_of_block hB1) (by simp)).trans hB1, ⟨nv, ?_, ownsRow_setCell_other hown1 (ownBlock_ne hown1 hN1 (by decide)) _⟩, ?_⟩
  · simpa using heap_setCell_same w1 (w.heap.size + 1) 1 _ _ nv hN1
  · have g1 : w.grownBy (wr.alloc o).drew none := grown_drew (hg.trans (World.grownBy_alloc wr o none))
    have g2 : w.grownBy w1 none := g1.andThen hgrow (fun j hj => .inl ((hown.lt j hj).1))
    exact g2.andThen gs (by simp)

set_option maxRecDepth 100000 in
set_option maxHeartbeats 3200000 in
theorem new24_notes (zp : Nat → Int) (oa : Option Addr) (ol oc : Nat) (sa : Option Addr) (sl sc : Nat) (w : World) (h4 : pl ≤ 1048576) (rp : Rd .i64 w pa pl zp) :
    Calls Try.prog 24 #[.slice oa ol oc, .int .u8 nx, .string wd, .int .i64 hx, .bool nm, .int .i64 ck, .int .i64 at', .bool true, .slice sa sl sc, .slice pa pl pc, .int .i64 ls] w fun e w' =>
      e = .returned (.pointer (some ⟨w.heap.size, 0, none⟩)) ∧ w'.heap[w.heap.size]? = some (.cells #[.slice oa ol oc, .int .u8 nx, .string wd, .int .i64 hx, .bool nm, .int .i64 ck, .int .i64 at', .pointer (some ⟨w.heap.size + 1, 0, none⟩)] 56 (0, 0)) ∧
      (∃ pv, w'.heap[w.heap.size + 1]? = some (.cells #[.slice sa sl sc, pv, .int .i64 ls] 64 (0, 0)) ∧ w'.ownsRow w.heap.size 66 2 pv (pl / 2) (pairs zp (pl / 2))) ∧ w.grownBy w' none := by
  obtain ⟨i0, hi0, hz0, hz1, hz2⟩ := info_parts Try.info66
  go_enter Try.func24, Try.ntmps24
  go_wp2_with fail
  go_loopw [25] (fun i wr => ∃ k m : Nat, m = 2 * k ∧ m ≤ pl ∧ i = .int .i64 m ∧ wr.heap[w.heap.size]? = some (.cells #[.slice oa ol oc, .int .u8 nx, .string wd, .int .i64 hx, .bool nm, .int .i64 ck, .int .i64 at', .pointer none] 56 (0, 0)) ∧
      (∃ pv, wr.heap[w.heap.size + 1]? = some (.cells #[.slice sa sl sc, pv, .int .i64 ls] 64 (0, 0)) ∧ wr.ownsRow w.heap.size 66 2 pv k (pairs zp k)) ∧ w.grownBy wr none) (fun i _ => pl - (intOf i).toNat)
  case atStart => exact ⟨0, 0, rfl, Nat.zero_le _, rfl, heap_alloc2_old _ _ _, ⟨.slice none 0 0, heap_alloc2_new _ _ _, World.ownsRow_nil _ _ _ _⟩, (World.grownBy_alloc _ _ _).trans (World.grownBy_alloc _ _ _)⟩
  case round =>
    obtain ⟨k, m, hm, hk, rfl, hB, ⟨pv, hN, hown⟩, hg⟩ := hrel
    have HM : Hid (m = 2 * k) := hm
    clear hm
    by_cases hlt : m + 1 < pl
    · rcases rp with ⟨rfl, rfl⟩ | ⟨x, rfl, hrx⟩
      · omega
      obtain ⟨b, off, rfl, hc⟩ := hrx (by omega)
      clear hrx
      have hc0 := hg.cell (hc m (by omega)) (by simp)
      have hc1 := hg.cell (hc (m + 1) (by omega)) (by simp)
      have lb : b < w.heap.size := World.block_lt_of_cell? w _ (hc m (by omega))
      have hcN := cell_of_row wr _ 1 _ _ _ hN
      have hfN := frozen_of_row wr _ 1 _ _ hN
      simp at hcN
      have hpN : pv.ownBlock ≠ some (w.heap.size + 1) := by
        intro e
        rcases hown.2 with ⟨rfl, _⟩ | ⟨g, cap, cur, rfl, _, hgg, _⟩
        · simp [Value.ownBlock] at e
        · simp [Value.ownBlock] at e
          rw [e, hN] at hgg; simp at hgg
      have hpb : pv.ownBlock ≠ some b := by
        intro e
        rcases hown.2 with ⟨rfl, _⟩ | ⟨g, cap, cur, rfl, hgb, hgg, _⟩
        · simp [Value.ownBlock] at e
        · simp [Value.ownBlock] at e
          omega
      have hkl : 2 * k ≤ 1048576 := by have := HM.out; omega
      have hmi : (m : Int) < (pl : Int) := by omega
      have hmi1 : (m : Int) + 1 < (pl : Int) := by omega
      have hm0 : (0 : Int) ≤ (m : Int) := by omega
      have hw1 : IntKind.i64.wrap ((m : Int) + 1) = (m : Int) + 1 := by rw [IntKind.wrap_i64]; omega
      have hm01 : (0 : Int) ≤ (m : Int) + 1 := by omega
      have hNl := lt_of_block hN
      have hbl : b < wr.heap.size := by have := hg.size; omega
      have hgs := hg.size
      have hfA : ∀ o, (wr.alloc o).frozen? ⟨w.heap.size + 1, 1, none⟩ = false := fun o => ((World.grownBy_alloc wr o none).frozen_far ⟨w.heap.size + 1, 1, none⟩ hNl (by simp)).trans hfN
      have hbN : w.heap.size + 1 ≠ b := by omega
      have HB : Hid (wr.heap[w.heap.size]? = _) := hB
      have HN : Hid (wr.heap[w.heap.size + 1]? = _) := hN
      have HC : Hid (∀ j, j < pl → w.cell? ⟨b, off + j, none⟩ = some (.int .i64 (zp j))) := hc
      clear hB hN hc
      go_wp2_with fail
      go_region_law
        ((refine step_append_lies _ (by rfl) _ _ _ (by rfl) w.heap.size 66 i0 _ 2 16 Try.underlying50 hi0 hz0 hz1 hz2 rfl (by omega) pv k (pairs zp k) (by rfl) ((hown.alloc _).drew)
            ⟨wr.heap.size, 0, none⟩ 1 1 [.int .i64 (zp m), .int .i64 (zp (m + 1))] (by rfl) (by rfl) (World.news_of_block (cs := #[.int .i64 (zp m), .int .i64 (zp (m + 1))]) (t := 66) (fr := (0, 0)) (heap_alloc_new wr _)) (by simp [Value.oneCell'])
            (by omega) (by unfold maxLen; omega) (by omega) (by simp; omega) (wr.heap.size + 1) (by simp) ?_; intro gg cap w1 hown1 hgrow hat hlt; have q1 := (hgrow.cell_far ⟨w.heap.size + 1, 1, none⟩ (by simp; omega) (Ne.symm hpN)).trans (World.cell?_alloc_some wr ⟨w.heap.size + 1, 1, none⟩ _ (by rw [hcN]; rfl)); have q2 := (hgrow.frozen_far ⟨w.heap.size + 1, 1, none⟩ (by simp; omega) (Ne.symm hpN)).trans (hfA _)))
      all_goals
        have R := new_step hg HB.out HN.out hown hgrow hown1
        have HR := hide R
        clear R hown1 hgrow q1 q2
        go_wp2
        go_roundw
        case rel =>
          have R := unhide HR
          refine ⟨k + 1, m + 2, by have := HM.out; omega, by omega, by go_num, R.1, ?_, R.2.2⟩
          rw [pairs_succ, ← HM.out]
          exact R.2.1
        case measure => simp [intOf]; omega
    · have hcB := cell_of_row wr _ 7 _ _ _ hB
      have hfB := frozen_of_row wr _ 7 _ _ hB
      simp at hcB
      have gs := grown_set wr w.heap.size 7 (.pointer (some ⟨w.heap.size + 1, 0, none⟩))
      have hB' := heap_setCell_same wr w.heap.size 7 _ _ (.pointer (some ⟨w.heap.size + 1, 0, none⟩)) hB
      have hN' := (gs.block (w.heap.size + 1) (lt_of_block hN) (by simp)).trans hN
      have hk2 : k = pl / 2 := by have := HM.out; omega
      subst hk2
      have ho' : (wr.setCell ⟨w.heap.size, 7, none⟩ (.pointer (some ⟨w.heap.size + 1, 0, none⟩))).ownsRow w.heap.size 66 2 pv (pl / 2) (pairs zp (pl / 2)) := by
        refine ownsRow_setCell_other hown (fun e => ?_) _
        rcases hown.2 with ⟨rfl, _⟩ | ⟨g, cap, cur, rfl, _, hgg, _⟩
        · simp [Value.ownBlock] at e
        · simp [Value.ownBlock] at e
          rw [e, hB] at hgg; simp at hgg
      have X : Hid ((wr.setCell ⟨w.heap.size, 7, none⟩ (.pointer (some ⟨w.heap.size + 1, 0, none⟩))).heap[w.heap.size]? = some (.cells #[.slice oa ol oc, .int .u8 nx, .string wd, .int .i64 hx, .bool nm, .int .i64 ck, .int .i64 at', .pointer (some ⟨w.heap.size + 1, 0, none⟩)] 56 (0, 0))) := by
        show _ = _
        simpa using hB'
      have HN' : Hid (_ = _) := hN'
      have hg' := hg.andThen gs (by simp)
      clear hB hN hown hB' hN' gs hg rp HM
      go_wp2_with fail
      go_ret
      exact ⟨rfl, X.out, ⟨pv, HN'.out, ho'⟩, hg'⟩
end Go.Proofs.Qxb6602576a
