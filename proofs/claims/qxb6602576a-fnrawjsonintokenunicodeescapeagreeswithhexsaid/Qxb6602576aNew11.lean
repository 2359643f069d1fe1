import Derived.Test.Qxb6602576aNew
namespace Go.Proofs.Qxb6602576a
open Go.RowKit
attribute [local go_sem ↓] Go.wp_at_zero Go.wp_at_succ

/-- The notes of a checker, where it has any. -/
def Nts (w : World) (base : Nat) (np : Option Addr) (hn : Bool) (sl : Nat) (zs : Nat → Int) (pl : Nat) (zp : Nat → Int) (ls : Int) : Prop :=
  (hn = false ∧ np = none) ∨ (hn = true ∧ ∃ N sa pv, np = some ⟨N, 0, none⟩ ∧ base ≤ N ∧ w.heap[N]? = some (.cells #[.slice sa sl sl, pv, .int .i64 ls] 64 (0, 0)) ∧ Own 3 .i64 base w sa sl zs ∧ w.ownsRow base 66 2 pv (pl / 2) (pairs zp (pl / 2)))

variable (nx : Int) (wd : ByteArray) (hx : Int) (nm : Bool) (ck at' : Int) (hn : Bool) (ls : Int)

theorem new24 (oa : Option Addr) (ol oc : Nat) (sa : Option Addr) (sl sc : Nat) (pa : Option Addr) (pl pc : Nat) (zp : Nat → Int) (w : World) (h4 : pl ≤ 1048576) (rp : Rd .i64 w pa pl zp) :
    Calls Try.prog 24 #[.slice oa ol oc, .int .u8 nx, .string wd, .int .i64 hx, .bool nm, .int .i64 ck, .int .i64 at', .bool hn, .slice sa sl sc, .slice pa pl pc, .int .i64 ls] w fun e w' =>
      ∃ np, e = .returned (.pointer (some ⟨w.heap.size, 0, none⟩)) ∧ w'.heap[w.heap.size]? = some (.cells #[.slice oa ol oc, .int .u8 nx, .string wd, .int .i64 hx, .bool nm, .int .i64 ck, .int .i64 at', .pointer np] 56 (0, 0)) ∧
      ((hn = false ∧ np = none) ∨ (hn = true ∧ np = some ⟨w.heap.size + 1, 0, none⟩ ∧ ∃ pv, w'.heap[w.heap.size + 1]? = some (.cells #[.slice sa sl sc, pv, .int .i64 ls] 64 (0, 0)) ∧ w'.ownsRow w.heap.size 66 2 pv (pl / 2) (pairs zp (pl / 2)))) ∧ w.grownBy w' none := by
  cases hn
  · refine (new24_bare nx wd hx nm ck at' pa pl pc ls oa ol oc sa sl sc w).mono ?_
    rintro e w' ⟨h1, h2, h3⟩
    exact ⟨none, h1, h2, .inl ⟨rfl, rfl⟩, h3⟩
  · refine (new24_notes nx wd hx nm ck at' pa pl pc ls zp oa ol oc sa sl sc w h4 rp).mono ?_
    rintro e w' ⟨h1, h2, h3, h4⟩
    exact ⟨_, h1, h2, .inr ⟨rfl, rfl, h3⟩, h4⟩

theorem ownsRow_base {w : World} {base base' : Nat} {e : TypeId} {size n : Nat} {v : Value} {xs : List Value} (h : w.ownsRow base e size v n xs) (hb : base' ≤ base) : w.ownsRow base' e size v n xs := by
  obtain ⟨h1, h2⟩ := h
  refine ⟨h1, h2.imp id ?_⟩
  rintro ⟨g, cap, cur, a, b, c⟩
  exact ⟨g, cap, cur, a, Nat.le_trans hb b, c⟩

set_option maxRecDepth 100000 in
set_option maxHeartbeats 3200000 in
theorem new11 (oa : Option Addr) (ol oc : Nat) (sa : Option Addr) (sl sc : Nat) (pa : Option Addr) (pl pc : Nat) (zo zs zp : Nat → Int) (w : World) (h1 : ol ≤ 1048576) (h3 : sl ≤ 1048576) (h4 : pl ≤ 1048576)
    (ro : Rd .u8 w oa ol zo) (rs : Rd .i64 w sa sl zs) (rp : Rd .i64 w pa pl zp) (co : oa = none → oc = 0) (cs : sa = none → sc = 0) (cp : pa = none → pc = 0) :
    Calls Try.prog 11 #[cfv oa ol oc nx wd hx nm ck at' hn sa sl sc pa pl pc ls] w fun e w' => ∃ B oa' np, e = .returned (.pointer (some ⟨B, 0, none⟩)) ∧ w.heap.size ≤ B ∧
      w'.heap[B]? = some (.cells #[.slice oa' ol ol, .int .u8 nx, .string wd, .int .i64 hx, .bool nm, .int .i64 ck, .int .i64 at', .pointer np] 56 (0, 0)) ∧
      Own 5 .u8 w.heap.size w' oa' ol zo ∧ Nts w' w.heap.size np hn sl zs pl zp ls ∧ w.grownBy w' none := by
  go_enter Try.func11, Try.ntmps11
  go_wp2_with fail
  have g0 := World.grownBy_alloc w (.cells #[.slice oa ol oc, .int .u8 nx, .string wd, .int .i64 hx, .bool nm, .int .i64 ck, .int .i64 at', .bool hn, .slice sa sl sc, .slice pa pl pc, .int .i64 ls] 25) none
  have hB0 := heap_alloc_new w (.cells #[.slice oa ol oc, .int .u8 nx, .string wd, .int .i64 hx, .bool nm, .int .i64 ck, .int .i64 at', .bool hn, .slice sa sl sc, .slice pa pl pc, .int .i64 ls] 25)
  have hs0 : (w.alloc (.cells #[.slice oa ol oc, .int .u8 nx, .string wd, .int .i64 hx, .bool nm, .int .i64 ck, .int .i64 at', .bool hn, .slice sa sl sc, .slice pa pl pc, .int .i64 ls] 25)).heap.size = w.heap.size + 1 := by simp
  generalize w.alloc (.cells #[.slice oa ol oc, .int .u8 nx, .string wd, .int .i64 hx, .bool nm, .int .i64 ck, .int .i64 at', .bool hn, .slice sa sl sc, .slice pa pl pc, .int .i64 ls] 25) = w0 at *
  have c0 := fun j => cell_of_row w0 _ j _ _ _ hB0
  have hgs := g0.size
  clear hB0
  go_region_held3 (fun w' => w'.cell? ⟨w.heap.size, 0, none⟩ = some (.slice oa ol oc) ∧ w'.cell? ⟨w.heap.size, 1, none⟩ = some (.int .u8 nx) ∧ w'.cell? ⟨w.heap.size, 2, none⟩ = some (.string wd) ∧ w'.cell? ⟨w.heap.size, 3, none⟩ = some (.int .i64 hx) ∧ w'.cell? ⟨w.heap.size, 4, none⟩ = some (.bool nm) ∧ w'.cell? ⟨w.heap.size, 5, none⟩ = some (.int .i64 ck) ∧ w'.cell? ⟨w.heap.size, 6, none⟩ = some (.int .i64 at') ∧ w'.cell? ⟨w.heap.size, 7, none⟩ = some (.bool hn) ∧ w'.cell? ⟨w.heap.size, 8, none⟩ = some (.slice sa sl sc) ∧ w'.cell? ⟨w.heap.size, 9, none⟩ = some (.slice pa pl pc) ∧ w'.cell? ⟨w.heap.size, 10, none⟩ = some (.int .i64 ls))
    (first
      | go_keep
      | (go_split_ands; refine ⟨?_, ?_, ?_, ?_, ?_, ?_, ?_, ?_, ?_, ?_, ?_⟩ <;> exact hgD.cell (by assumption) (by simp))
      | (go_split_ands; refine ⟨?_, ?_, ?_, ?_, ?_, ?_, ?_, ?_, ?_, ?_, ?_⟩ <;> exact hgC.cell (by assumption) (by simp))
      | (go_split_ands; refine ⟨?_, ?_, ?_, ?_, ?_, ?_, ?_, ?_, ?_, ?_, ?_⟩ <;> exact hgB.cell (by assumption) (by simp))
      | (go_split_ands; refine ⟨?_, ?_, ?_, ?_, ?_, ?_, ?_, ?_, ?_, ?_, ?_⟩ <;> exact hgA.cell (by assumption) (by simp)))
    (first
      | (go_at_call 22; refine (clone22 oa ol oc zo _ co h1 (ro.grown (grown_drew g0))).mono ?_; rintro e w1 ⟨oa', rfl, hoA, hgA⟩)
      | (go_at_call_of 23 (Value.slice sa sl sc); refine (clone23 sa sl sc zs _ cs h3 (rs.grown ((grown_drew g0).trans hgA))).mono ?_; rintro e w2 ⟨sa', rfl, hoB, hgB⟩)
      | (go_at_call_of 23 (Value.slice pa pl pc); refine (clone23 pa pl pc zp _ cp h4 (rp.grown (((grown_drew g0).trans hgA).trans hgB))).mono ?_; rintro e w3 ⟨pa', rfl, hoC, hgC⟩)
      | (go_at_call 24; refine (new24 nx wd hx nm ck at' hn ls oa' ol ol sa' sl sl pa' pl pl zp _ h4 hoC.rd).mono ?_; rintro e w4 ⟨np, rfl, hB4, hN4, hgD⟩))
  have a1 := hgA.size
  have a2 := hgB.size
  have a3 := hgC.size
  have gw : w.grownBy w4 none := ((((grown_drew g0).trans hgA).trans hgB).trans hgC).trans hgD
  have hb1 : w.heap.size ≤ w0.drew.heap.size := hgs
  have hoA' : Own 5 .u8 w.heap.size w4 oa' ol zo := ((((hoA.kept0 hgB).kept0 hgC).kept0 hgD).mono hb1)
  have hoB' : Own 3 .i64 w.heap.size w4 sa' sl zs := (((hoB.kept0 hgC).kept0 hgD).mono (Nat.le_trans hb1 a1))
  have hb3 : w.heap.size ≤ w3.heap.size := Nat.le_trans (Nat.le_trans (Nat.le_trans hb1 a1) a2) a3
  have hN' : Nts w4 w.heap.size np hn sl zs pl zp ls := by
    rcases hN4 with h | ⟨h, rfl, pv, hN, ho⟩
    · exact .inl h
    · exact .inr ⟨h, w3.heap.size + 1, sa', pv, rfl, by omega, hN, hoB', ownsRow_base ho hb3⟩
  have HB4 := hide hB4
  clear hoA hgA hoB hgB hoC hgC hB4 hN4 hgD c0 ro rs rp
  go_wp2
  go_ret
  exact ⟨_, oa', np, rfl, hb3, unhide HB4, hoA', hN', gw⟩
end Go.Proofs.Qxb6602576a
