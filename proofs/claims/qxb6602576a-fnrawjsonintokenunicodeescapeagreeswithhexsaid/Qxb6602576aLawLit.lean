import Derived.Test.Qxb6602576aState
import Derived.Test.Qxb6602576aTok
import Derived.Test.Qxb6602576aStart
namespace Go.Proofs.Qxb6602576a
open Go.RowKit
attribute [local go_sem ↓] Go.wp_at_zero Go.wp_at_succ

theorem Try.size25' : (Try.prog.info? 25).map (·.size) = some 11 := by kernel_rfl

theorem bext {s t : ByteArray} (h : s.data.toList = t.data.toList) : s = t := by
  obtain ⟨⟨l⟩⟩ := s; obtain ⟨⟨l'⟩⟩ := t; simp at h; rw [h]
theorem suf_size (W : ByteArray) (k : Nat) : (W.extract k W.size).size = W.size - k := by
  show (W.extract k W.size).data.toList.length = _
  rw [Lib.extract_to_end, List.length_drop]; rfl
theorem suf_succ (W : ByteArray) (k : Nat) : (W.extract k W.size).extract 1 (W.extract k W.size).size = W.extract (k + 1) W.size := by
  apply bext
  rw [Lib.extract_to_end, Lib.extract_to_end, Lib.extract_to_end, List.drop_drop]
theorem suf_zero (W : ByteArray) : W.extract 0 W.size = W := by
  apply bext; rw [Lib.extract_to_end]; rfl
theorem suf_end (W : ByteArray) : W.extract W.size W.size = ⟨#[]⟩ := by
  apply bext; rw [Lib.extract_to_end]
  have : W.data.toList.drop W.size = [] := List.drop_eq_nil_of_le (Nat.le_refl _)
  rw [this]
theorem suf_head (W : ByteArray) (k : Nat) (hk : k < W.size) (h : 0 < (W.extract k W.size).size) : (W.extract k W.size)[0] = W[k] := by
  have e1 : (W.extract k W.size).data.toList[0]? = W.data.toList[k]? := by rw [Lib.extract_to_end, List.getElem?_drop]; rfl
  have e2 : (W.extract k W.size).data.toList[0]? = some ((W.extract k W.size)[0]'h) := List.getElem?_eq_getElem h
  have e3 : W.data.toList[k]? = some (W[k]'hk) := List.getElem?_eq_getElem hk
  rw [e2, e3] at e1
  simpa using e1

theorem Nts.keptB {w w' : World} {base B : Nat} {cs : Array Value} {fr : Nat × Nat} {np : Option Addr} {hn : Bool} {sl : Nat} {zs : Nat → Int} {pl : Nat} {zp : Nat → Int} {ls : Int} (h : Nts w base np hn sl zs pl zp ls) (hg : w.grownBy w' (some B)) (hB : w.heap[B]? = some (.cells cs 56 fr)) : Nts w' base np hn sl zs pl zp ls := by
  rcases h with h | ⟨h, N, sa, pv, rfl, hb, hN, ho, hp⟩
  · exact .inl h
  · refine .inr ⟨h, N, sa, pv, rfl, hb, (hg.block N (lt_of_block hN) (fun e => ?_)).trans hN, ho.kept hg hB (by decide), hp.kept hg (Or.inr (ownBlock_ne hp hB (by decide)))⟩
    obtain rfl : N = B := by simpa using e
    rw [hB] at hN; simp at hN

theorem lit16' (b : Int) (B : Nat) (oa : Option Addr) (ol oc : Nat) (nv hv mv cv tv pv : Value) (s : ByteArray) (w : World) (hs : 0 < s.size) (hm : s.size ≤ 1048576) (hb : b = ((s[0]'hs).toNat : Int))
    (hB : w.heap[B]? = some (.cells #[.slice oa ol oc, nv, .string s, hv, mv, cv, tv, pv] 56 (0, 0))) :
    Calls Try.prog 16 #[.pointer (some ⟨B, 0, none⟩), .int .u8 9, .int .u8 b] w fun e w' => e = .returned (.int .u8 (litStep s.size ol)) ∧
      w'.heap[B]? = some (.cells #[.slice oa ol oc, nv, .string (s.extract 1 s.size), hv, mv, cv, tv, pv] 56 (0, 0)) ∧ w.grownBy w' (some B) := by
  subst hb
  exact lit16 B oa ol oc nv hv mv cv tv pv s w hs hm hB

section
variable (oa : Option Addr) (ol oc : Nat) (nx : Int) (wd : ByteArray) (hx : Int) (nm : Bool) (ck at' : Int) (hn : Bool) (sa : Option Addr) (sl sc : Nat) (pa : Option Addr) (pl pc : Nat) (ls : Int)

set_option maxHeartbeats 1600000 in
/-- The early ways out. -/
theorem law4_out (w : World) (h1 : ol ≤ maxLen) (h2 : wd.size ≤ maxLen) (h3 : sl ≤ maxLen) (h4 : pl ≤ maxLen)
    (h : ¬ (ol + wd.size + 8 * sl + 8 * pl ≤ 1048576 ∧ 0 < wd.size)) :
    Calls Try.prog 4 #[cfv oa ol oc nx wd hx nm ck at' hn sa sl sc pa pl pc ls] w fun e w' => e = .returned (.bool true) ∧ w.grownBy w' none := by
  have g0 := World.grownBy_alloc w (.cells #[.slice oa ol oc, .int .u8 nx, .string wd, .int .i64 hx, .bool nm, .int .i64 ck, .int .i64 at', .bool hn, .slice sa sl sc, .slice pa pl pc, .int .i64 ls] 25) none
  have hB0 := heap_alloc_new w (.cells #[.slice oa ol oc, .int .u8 nx, .string wd, .int .i64 hx, .bool nm, .int .i64 ck, .int .i64 at', .bool hn, .slice sa sl sc, .slice pa pl pc, .int .i64 ls] 25)
  have HB0 := hide hB0
  clear hB0
  by_cases hA : ol + wd.size + sl + pl ≤ 1048576
  · have dA : decide (ol + wd.size + sl + pl ≤ 1048576) = true := by simpa using hA
    by_cases hB : ol + wd.size + 8 * sl + 8 * pl ≤ 1048576
    · have dB : decide (ol + wd.size + 8 * sl + 8 * pl ≤ 1048576) = true := by simpa using hB
      have dW : ((wd.size : Int) == 0) = true := beq_iff_eq.2 (by omega)
      go_enter Try.func4, Try.ntmps4
      go_wp2_with fail
      refine (bytes15 oa ol oc nx wd hx nm ck at' hn sa sl sc pa pl pc ls _ h1 h2 h3 h4).mono ?_
      rintro e w1 ⟨rfl, g1⟩
      have hB1 := box_kept (unhide HB0) g1
      have c1 := fun j => cell_of_row w1 _ j _ _ _ hB1
      have HB1 := hide hB1
      clear hB1
      go_wp2_with fail
      refine (fit8 oa ol oc nx wd hx nm ck at' hn sa sl sc pa pl pc ls _ h1 h2 h3 h4).mono ?_
      rintro e w2 ⟨rfl, g2⟩
      have hB2 := box_kept (unhide HB1) g2
      have c2 := fun j => cell_of_row w2 _ j _ _ _ hB2
      clear c1 hB2
      go_wp2_with fail
      go_ret
      exact ⟨rfl, (g0.trans g1).trans g2⟩
    · have dB : decide (ol + wd.size + 8 * sl + 8 * pl ≤ 1048576) = false := by simpa using hB
      go_enter Try.func4, Try.ntmps4
      go_wp2_with fail
      refine (bytes15 oa ol oc nx wd hx nm ck at' hn sa sl sc pa pl pc ls _ h1 h2 h3 h4).mono ?_
      rintro e w1 ⟨rfl, g1⟩
      have hB1 := box_kept (unhide HB0) g1
      have c1 := fun j => cell_of_row w1 _ j _ _ _ hB1
      clear hB1
      go_wp2_with fail
      refine (fit8 oa ol oc nx wd hx nm ck at' hn sa sl sc pa pl pc ls _ h1 h2 h3 h4).mono ?_
      rintro e w2 ⟨rfl, g2⟩
      clear c1
      go_wp2_with fail
      go_ret
      exact ⟨rfl, (g0.trans g1).trans g2⟩
  · have dA : decide (ol + wd.size + sl + pl ≤ 1048576) = false := by simpa using hA
    go_enter Try.func4, Try.ntmps4
    go_wp2_with fail
    refine (bytes15 oa ol oc nx wd hx nm ck at' hn sa sl sc pa pl pc ls _ h1 h2 h3 h4).mono ?_
    rintro e w1 ⟨rfl, g1⟩
    go_wp2_with fail
    go_ret
    exact ⟨rfl, g0.trans g1⟩

set_option maxRecDepth 100000 in
set_option maxHeartbeats 3200000 in
theorem law4_in (zo zs zp : Nat → Int) (w : World) (hC : ol + wd.size + 8 * sl + 8 * pl ≤ 1048576) (hW : 0 < wd.size)
    (ro : Rd .u8 w oa ol zo) (rs : Rd .i64 w sa sl zs) (rp : Rd .i64 w pa pl zp) (co : oa = none → oc = 0) (cs : sa = none → sc = 0) (cp : pa = none → pc = 0) :
    Calls Try.prog 4 #[cfv oa ol oc nx wd hx nm ck at' hn sa sl sc pa pl pc ls] w fun e w' => e = .returned (.bool true) ∧ w.grownBy w' none := by
  have g0 := World.grownBy_alloc w (.cells #[.slice oa ol oc, .int .u8 nx, .string wd, .int .i64 hx, .bool nm, .int .i64 ck, .int .i64 at', .bool hn, .slice sa sl sc, .slice pa pl pc, .int .i64 ls] 25) none
  have hB0 := heap_alloc_new w (.cells #[.slice oa ol oc, .int .u8 nx, .string wd, .int .i64 hx, .bool nm, .int .i64 ck, .int .i64 at', .bool hn, .slice sa sl sc, .slice pa pl pc, .int .i64 ls] 25)
  have HB0 := hide hB0
  clear hB0
  have h1 : ol ≤ maxLen := by unfold maxLen; omega
  have h2 : wd.size ≤ maxLen := by unfold maxLen; omega
  have h3 : sl ≤ maxLen := by unfold maxLen; omega
  have h4 : pl ≤ maxLen := by unfold maxLen; omega
  have dA : decide (ol + wd.size + sl + pl ≤ 1048576) = true := by simp; omega
  have dB : decide (ol + wd.size + 8 * sl + 8 * pl ≤ 1048576) = true := by simp; omega
  have hol : ol ≤ 1048576 := by omega
  have hwd : wd.size ≤ 1048576 := by omega
  have hsl : sl ≤ 1048576 := by omega
  have hpl : pl ≤ 1048576 := by omega
  have dW : ((wd.size : Int) == 0) = false := beq_eq_false_iff_ne.2 (by omega)
  go_enter Try.func4, Try.ntmps4
  go_wp2_with fail
  refine (bytes15 oa ol oc nx wd hx nm ck at' hn sa sl sc pa pl pc ls _ h1 h2 h3 h4).mono ?_
  rintro e w1 ⟨rfl, g1⟩
  have hB1 := box_kept (unhide HB0) g1
  have c1 := fun j => cell_of_row w1 _ j _ _ _ hB1
  have HB1 := hide hB1
  clear hB1
  go_wp2_with fail
  refine (fit8 oa ol oc nx wd hx nm ck at' hn sa sl sc pa pl pc ls _ h1 h2 h3 h4).mono ?_
  rintro e w2 ⟨rfl, g2⟩
  have hB2 := box_kept (unhide HB1) g2
  have c2 := fun j => cell_of_row w2 _ j _ _ _ hB2
  have HB2 := hide hB2
  have gw2 := (g0.trans g1).trans g2
  clear hB2 c1 g0 g1 g2 HB0 HB1
  go_wp2_with fail
  refine (clone10 oa ol oc nx wd hx nm ck at' hn sa sl sc pa pl pc ls zo zs zp _ hol hsl hpl (ro.grown gw2) (rs.grown gw2) (rp.grown gw2) co cs cp).mono ?_
  rintro e w6 ⟨oa', sa', pa', rfl, o6, s6, p6, g6⟩
  have hB6 := box_kept (unhide HB2) g6
  have gw6 := gw2.trans g6
  clear HB2 c2 g6
  have HB6 := hide hB6
  clear hB6
  go_wp2_with (refine wpList_store_is rfl 25 (.tmp 1) (.tmp 19) rfl w.heap.size 25 _ #[.slice oa' ol ol, .int .u8 nx, .string wd, .int .i64 hx, .bool nm, .int .i64 ck, .int .i64 at', .bool hn, .slice sa' sl sl, .slice pa' pl pl, .int .i64 ls] (by rfl) (by rfl) (unhide HB6) (by rfl) Try.size25' (by simp [Value.oneCell']) ?_)
  intro w7 hB7 g7 hs7
  have o7 := o6.kept g7 (unhide HB6) (by decide)
  have s7 := s6.kept g7 (unhide HB6) (by decide)
  have p7 := p6.kept g7 (unhide HB6) (by decide)
  have gw7 := gw6.andThen g7 (by simp)
  have c7 := fun j => cell_of_row w7 _ j _ _ _ hB7
  have HB7 := hide hB7
  clear hB7 o6 s6 p6 gw6 g7 HB6 hs7
  go_wp2_with fail
  refine (new11 nx wd hx nm ck at' hn ls oa' ol ol sa' sl sl pa' pl pl zo zs zp w7 hol hsl hpl o7.rd s7.rd p7.rd ?_ ?_ ?_).mono ?_
  · intro h; rcases o7 with ⟨_, h⟩ | ⟨g, h', _⟩
    · exact h
    · rw [h] at h'; cases h'
  · intro h; rcases s7 with ⟨_, h⟩ | ⟨g, h', _⟩
    · exact h
    · rw [h] at h'; cases h'
  · intro h; rcases p7 with ⟨_, h⟩ | ⟨g, h', _⟩
    · exact h
    · rw [h] at h'; cases h'
  rintro e w8 ⟨B, oa8, np, rfl, hBl, hB8, o8, n8, g8⟩
  have gw8 := gw7.trans g8
  have hbox8 := box_kept (unhide HB7) g8
  have c8 := fun j => cell_of_row w8 _ j _ _ _ hbox8
  have hBw : w.heap.size ≤ B := Nat.le_trans gw7.size hBl
  have hBb : w.heap.size < w7.heap.size := lt_of_block (unhide HB7)
  have o8' := o7.kept0 g8
  have s8' := s7.kept0 g8
  have p8' := p7.kept0 g8
  have HB8 := hide hB8
  have Hbox8 := hide hbox8
  clear hB8 c7 o7 s7 p7 HB7 hbox8 ro rs rp
  go_wp2_with fail
  go_loopw [5] (fun i wr => ∃ k : Nat, k ≤ wd.size ∧ i = .int .i64 k ∧ wr.heap[B]? = some (.cells #[.slice oa8 ol ol, .int .u8 nx, .string (wd.extract k wd.size), .int .i64 hx, .bool nm, .int .i64 ck, .int .i64 at', .pointer np] 56 (0, 0)) ∧ w8.grownBy wr (some B)) (fun i _ => wd.size - (intOf i).toNat)
  case atStart => exact ⟨0, Nat.zero_le _, rfl, by rw [suf_zero]; exact unhide HB8, World.grownBy.refl _ _⟩
  case round =>
    obtain ⟨k, hk, rfl, hBr, hgr⟩ := hrel
    have hbr := (hgr.block w.heap.size (lt_of_block (unhide Hbox8)) (by simp; omega)).trans (unhide Hbox8)
    have cr := fun j => cell_of_row wr _ j _ _ _ hbr
    have Hbr := hide hbr
    have HBr := hide hBr
    clear hbr hBr c8
    by_cases hlt : k < wd.size
    · have hsz := suf_size wd k
      have hpos : 0 < (wd.extract k wd.size).size := by omega
      have hhd := suf_head wd k hlt hpos
      have Hhd : Hid (((wd[k]'hlt).toNat : Int) = (((wd.extract k wd.size)[0]'hpos).toNat : Int)) := by
        show _ = _
        rw [hhd]
      have Hsz := hide hsz
      clear hhd hsz
      go_wp2_with fail
      refine (lit16' _ B oa8 ol ol _ _ _ _ _ _ (wd.extract k wd.size) wr hpos (by have := unhide Hsz; omega) (unhide Hhd) (unhide HBr)).mono ?_
      rintro e w9 ⟨rfl, hB9, g9⟩
      rw [suf_succ] at hB9
      have HB9 := hide hB9
      have hb9 := (g9.block w.heap.size (lt_of_block (unhide Hbr)) (by simp; omega)).trans (unhide Hbr)
      have c9 := fun j => cell_of_row w9 _ j _ _ _ hb9
      have C9 := hide (fun j => cell_of_row w9 _ j _ _ _ hB9)
      have gr9 := hgr.trans g9
      clear hB9 hb9 cr HBr Hbr hgr g9
      by_cases hlast : k + 1 < wd.size
      · have hst : litStep (wd.extract k wd.size).size ol = 9 := if_pos (by have := unhide Hsz; omega)
        rw [hst]
        have hl1 : (k : Int) < (wd.size : Int) - 1 := by omega
        have hl2 : (k : Int) + 1 ≤ (wd.size : Int) := by omega
        have hl3 : (0 : Int) ≤ (k : Int) + 1 := by omega
        have hw1 : IntKind.i64.wrap ((k : Int) + 1) = (k : Int) + 1 := by rw [IntKind.wrap_i64]; omega
        clear hst
        go_wp2_with fail
        go_region_held3 (fun w' => w'.cell? ⟨w.heap.size, 2, none⟩ = some (.string wd))
          (go_keep)
          (first
            | (go_at_call 14; refine (wordB14 B _ w9.drew (unhide C9 2)).mono ?_; rintro e w10 ⟨rfl, rfl⟩))
        go_wp2_with fail
        go_roundw
        case rel => exact ⟨k + 1, by omega, by go_num, unhide HB9, grown_drew gr9⟩
        case measure => simp [intOf]; omega
      · have hst : litStep (wd.extract k wd.size).size ol = endStep ol := if_neg (by have := unhide Hsz; omega)
        rw [hst]
        have hl1 : ¬ (k : Int) < (wd.size : Int) - 1 := by omega
        clear hst
        by_cases h0 : ol = 0
        · have hes : endStep ol = 18 := if_pos h0
          have hd0 : ((ol : Int) == 0) = true := beq_iff_eq.2 (by omega)
          rw [hes]
          clear hes h0
          go_wp2_with fail
          go_roundw
          case rel => exact ⟨k + 1, by omega, by go_num, unhide HB9, gr9⟩
          case measure => simp [intOf]; omega
        · have hes : endStep ol = 5 := if_neg h0
          have hd0 : ((ol : Int) == 0) = false := beq_eq_false_iff_ne.2 (by omega)
          rw [hes]
          clear hes h0
          go_wp2_with fail
          go_roundw
          case rel => exact ⟨k + 1, by omega, by go_num, unhide HB9, gr9⟩
          case measure => simp [intOf]; omega
    · obtain rfl : k = wd.size := by omega
      have hB9 := unhide HBr
      rw [suf_end] at hB9
      have or : Own 5 .u8 w7.heap.size wr oa8 ol zo := o8.kept hgr (unhide HB8) (by decide)
      have nr : Nts wr w7.heap.size np hn sl zs pl zp ls := n8.keptB hgr (unhide HB8)
      have or' := (o8'.kept hgr (unhide HB8) (by decide)).rd
      have sr' := (s8'.kept hgr (unhide HB8) (by decide)).rd
      have pr' := (p8'.kept hgr (unhide HB8) (by decide)).rd
      have HB9 := hide hB9
      clear hB9 HBr o8 n8 o8' s8' p8'
      go_wp2_with fail
      refine (state17 w7.heap.size B oa8 oa' ol ol nx wd ⟨#[]⟩ hx hx nm ck at' np hn sa' sl sl pa' pl pl ls zo zs zp wr hol hsl hpl (Nat.le_refl _) (unhide HB9) or.rd nr or' sr' pr').mono ?_
      rintro e w10 ⟨rfl, g10⟩
      go_wp2_with fail
      go_ret
      exact ⟨rfl, (gw8.andThen hgr (fun j hj => .inl (by simp at hj; omega))).trans g10⟩
end
end Go.Proofs.Qxb6602576a
