import Derived.Test.Qxb6602576aSpans
import Derived.Deep.RegionHeld3
import Derived.Deep.DrawnRows
namespace Go.Proofs.Qxb6602576a
open Go.RowKit
attribute [local go_sem ↓] Go.wp_at_zero Go.wp_at_succ

theorem box_kept' {w w' : World} {b : Nat} {o : Obj} (hB : w.heap[b]? = some o) (hg : w.grownBy w' none) : w'.heap[b]? = some o := (hg.block b (lt_of_block hB) (by simp)).trans hB

theorem Nts.kept0 {w w' : World} {base : Nat} {np : Option Addr} {hn : Bool} {sl : Nat} {zs : Nat → Int} {pl : Nat} {zp : Nat → Int} {ls : Int} (h : Nts w base np hn sl zs pl zp ls) (hg : w.grownBy w' none) : Nts w' base np hn sl zs pl zp ls := by
  rcases h with h | ⟨h, N, sa, pv, rfl, hb, hN, ho, hp⟩
  · exact .inl h
  · exact .inr ⟨h, N, sa, pv, rfl, hb, box_kept' hN hg, ho.kept0 hg, hp.kept hg (by cases hv : pv.ownBlock <;> simp)⟩

set_option maxRecDepth 100000 in
set_option maxHeartbeats 3200000 in
theorem state17 (base B : Nat) (oa8 oa : Option Addr) (ol oc : Nat) (nx : Int) (wd wd' : ByteArray) (hx hx' : Int) (nm : Bool) (ck at' : Int) (np : Option Addr) (hn : Bool) (sa : Option Addr) (sl sc : Nat) (pa : Option Addr) (pl pc : Nat) (ls : Int) (zo zs zp : Nat → Int) (w : World)
    (hol : ol ≤ 1048576) (hsl : sl ≤ 1048576) (hpl : pl ≤ 1048576) (hpc : pl ≤ pc)
    (hB : w.heap[B]? = some (.cells #[.slice oa8 ol ol, .int .u8 nx, .string wd', .int .i64 hx', .bool nm, .int .i64 ck, .int .i64 at', .pointer np] 56 (0, 0)))
    (o8 : Rd .u8 w oa8 ol zo) (n8 : Nts w base np hn sl zs pl zp ls) (ro : Rd .u8 w oa ol zo) (rs : Rd .i64 w sa sl zs) (rp : Rd .i64 w pa pl zp) :
    Calls Try.prog 17 #[.pointer (some ⟨B, 0, none⟩), cfv oa ol oc nx wd hx nm ck at' hn sa sl sc pa pl pc ls, .slice oa ol oc, .string wd', .int .i64 hx', .bool nm, .slice sa sl sc] w fun e w' =>
      e = .returned (.bool true) ∧ w.grownBy w' none := by
  go_enter Try.func17, Try.ntmps17
  go_wp2_with fail
  have g0 := World.grownBy_alloc w (.cells #[.slice oa ol oc, .int .u8 nx, .string wd, .int .i64 hx, .bool nm, .int .i64 ck, .int .i64 at', .bool hn, .slice sa sl sc, .slice pa pl pc, .int .i64 ls] 25) none
  have hb0 := heap_alloc_new w (.cells #[.slice oa ol oc, .int .u8 nx, .string wd, .int .i64 hx, .bool nm, .int .i64 ck, .int .i64 at', .bool hn, .slice sa sl sc, .slice pa pl pc, .int .i64 ls] 25)
  generalize w.alloc (.cells #[.slice oa ol oc, .int .u8 nx, .string wd, .int .i64 hx, .bool nm, .int .i64 ck, .int .i64 at', .bool hn, .slice sa sl sc, .slice pa pl pc, .int .i64 ls] 25) = w0 at *
  have HB0 := hide (box_kept' hB g0)
  have o0 := o8.grown g0
  have n0 := n8.kept0 g0
  have ro0 := ro.grown g0
  have rs0 := rs.grown g0
  have rp0 := rp.grown g0
  have Hb0 := hide hb0
  have c0 := fun j => cell_of_row w0 _ j _ _ _ hb0
  clear hB o8 n8 ro rs rp hb0
  go_region_held3 (fun w' => w'.cell? ⟨w.heap.size, 1, none⟩ = some (.int .u8 nx))
    (first
      | go_keep
      | (go_split_ands; exact hgA.cell (by assumption) (by simp)))
    (first
      | (go_at_call 29; refine (open29 B oa8 ol ol w0.drew (cell_of_row w0 _ 0 _ _ _ (unhide HB0))).mono ?_; rintro e w1 ⟨rfl, rfl⟩)
      | (go_at_call 28; refine (eq28 oa8 oa ol ol oc zo w0.drew hol o0 ro0).mono ?_; rintro e w1 ⟨rfl, hgA⟩)
      | (go_at_call 30; refine (next30 B nx w1 (hgA.cell (cell_of_row w0 _ 1 _ _ _ (unhide HB0)) (by simp))).mono ?_; rintro e w2 ⟨rfl, rfl⟩)
      | (go_at_call 14; refine (wordB14 B wd' w1 (hgA.cell (cell_of_row w0 _ 2 _ _ _ (unhide HB0)) (by simp))).mono ?_; rintro e w2 ⟨rfl, rfl⟩))
  have g1 : w.grownBy w1 none := (grown_drew g0).trans hgA
  have hb1 := box_kept' (w := w0.drew) (unhide Hb0) hgA
  have hB1 := box_kept' (w := w0.drew) (unhide HB0) hgA
  have n1 := Nts.kept0 (w := w0.drew) n0 hgA
  have rs1 := Rd.grown (w := w0.drew) rs0 hgA
  have rp1 := Rd.grown (w := w0.drew) rp0 hgA
  have c1 := fun j => cell_of_row w1 _ j _ _ _ hb1
  have C1 := hide (fun j => cell_of_row w1 _ j _ _ _ hB1)
  have Hb1 := hide hb1
  have HB1 := hide hB1
  clear c0 HB0 o0 n0 ro0 rs0 rp0 Hb0 hgA g0 hb1 hB1
  go_wp2_with (first
    | (go_at_call 19; refine (hexes19 B hx' _ (unhide C1 3)).mono ?_; rintro e w2 ⟨rfl, rfl⟩)
    | (go_at_call 31; refine (name31 B nm _ (unhide C1 4)).mono ?_; rintro e w2 ⟨rfl, rfl⟩))
  have hnp : np.isSome = hn := by
    rcases n1 with ⟨rfl, rfl⟩ | ⟨rfl, N, sa, pv, rfl, _⟩ <;> rfl
  go_region_held3 (fun w' => w'.cell? ⟨w.heap.size, 5, none⟩ = some (.int .i64 ck) ∧ w'.cell? ⟨w.heap.size, 6, none⟩ = some (.int .i64 at') ∧ w'.cell? ⟨w.heap.size, 7, none⟩ = some (.bool hn))
    (go_keep)
    (first
      | (go_at_call 32; refine (checked32 B ck w1.drew (unhide C1 5)).mono ?_; rintro e w2 ⟨rfl, rfl⟩)
      | (go_at_call 33; refine (at33 B at' w1.drew (unhide C1 6)).mono ?_; rintro e w2 ⟨rfl, rfl⟩)
      | (go_at_call 34; refine (has34 B np w1.drew (unhide C1 7)).mono ?_; rintro e w2 ⟨rfl, rfl⟩))
  have g2 : w.grownBy w1.drew none := grown_drew g1
  have Hb2 : Hid (w1.drew.heap[w.heap.size]? = _) := Hb1
  have HB2 : Hid (w1.drew.heap[B]? = _) := HB1
  have n2 : Nts w1.drew base np hn sl zs pl zp ls := n1
  have rs2 : Rd .i64 w1.drew sa sl zs := rs1
  have rp2 : Rd .i64 w1.drew pa pl zp := rp1
  clear g1 Hb1 HB1 n1 rs1 rp1 C1 c1
  generalize w1.drew = w2 at *
  have c2 := fun j => cell_of_row w2 _ j _ _ _ (unhide Hb2)
  have C2 := hide (fun j => cell_of_row w2 _ j _ _ _ (unhide HB2))
  rcases n2 with ⟨rfl, rfl⟩ | ⟨rfl, N, sa8, pv, rfl, hbN, hN, hos, hop⟩
  · clear rs2 rp2
    go_wp2_with fail
    go_ret
    exact ⟨rfl, g2⟩
  · have CN := hide (fun j => cell_of_row w2 _ j _ _ _ hN)
    have r8 := hos.rd
    clear hN hos
    go_wp2_with fail
    go_region_held3 (fun w' => w'.cell? ⟨w.heap.size, 9, none⟩ = some (.slice pa pl pc) ∧ w'.cell? ⟨w.heap.size, 10, none⟩ = some (.int .i64 ls))
      (first
        | go_keep
        | (go_split_ands; refine ⟨?_, ?_⟩ <;> exact hgC.cell (by assumption) (by simp))
        | (go_split_ands; refine ⟨?_, ?_⟩ <;> exact hgB.cell (by assumption) (by simp))
        | (go_split_ands; refine ⟨?_, ?_⟩ <;> exact hgA.cell (by assumption) (by simp)))
      (first
        | (go_at_call 36; refine (starts36 B N sa8 sl sl w2.drew (unhide C2 7) (unhide CN 0)).mono ?_; rintro e w3 ⟨rfl, rfl⟩)
        | (go_at_call_of 35 (Value.slice sa sl sc); refine (eq35 sa8 sa sl sl sc zs w2.drew hsl r8 rs2).mono ?_; rintro e w3 ⟨rfl, hgA⟩)
        | (go_at_call 37; refine (spans37 base B N pv (pl / 2) zp w3 (by omega) (hgA.cell (unhide C2 7) (by simp)) (hgA.cell (unhide CN 1) (by simp)) (hop.drew.kept hgA (by cases hv : pv.ownBlock <;> simp))).mono ?_; rintro e w4 ⟨gs, caps, rfl, rsp, hgB⟩)
        | (go_at_call 38; refine (even38 pa pl pc w4 hpl hpc).mono ?_; rintro e w5 ⟨rfl, rfl⟩)
        | (go_at_call 35; refine (eq35 (some ⟨gs, 0, none⟩) pa (2 * (pl / 2)) caps pc zp w4 (by omega) rsp (rd_cap ((Rd.grown (w := w2.drew) rp2 hgA).grown hgB) (by omega))).mono ?_; rintro e w5 ⟨rfl, hgC⟩)
        | (go_at_call 39; refine (least39 B N ls w5 (hgC.cell (hgB.cell (hgA.cell (unhide C2 7) (by simp)) (by simp)) (by simp)) (hgC.cell (hgB.cell (hgA.cell (unhide CN 2) (by simp)) (by simp)) (by simp))).mono ?_; rintro e w6 ⟨rfl, rfl⟩))
    go_wp2_with fail
    go_ret
    exact ⟨ret_bool (by simp), (((grown_drew g2).trans hgA).trans hgB).trans hgC⟩
end Go.Proofs.Qxb6602576a
