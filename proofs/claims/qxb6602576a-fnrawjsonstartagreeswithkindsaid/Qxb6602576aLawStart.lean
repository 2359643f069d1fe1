import Derived.Test.Qxb6602576aKind
import Derived.Test.Qxb6602576aStart
namespace Go.Proofs.Qxb6602576a
open Go.RowKit

theorem Try.size25 : (Try.prog.info? 25).map (·.size) = some 11 := by kernel_rfl

/-- What start says and what Kind says. -/
theorem start_kind (c : Int) : (startOf c = 19 ∧ kindOf c = 3) ∨ (startOf c = 1 ∧ kindOf c = 5) ∨ (startOf c = 2 ∧ kindOf c = 6) ∨ (startOf c = 6 ∧ kindOf c = 4) ∨ (startOf c = 9 ∧ kindOf c = 1 ∧ c = 110) ∨ (startOf c = 9 ∧ kindOf c = 2 ∧ c = 116) ∨ (startOf c = 9 ∧ kindOf c = 2 ∧ c = 102) ∨
    (startOf c = 10 ∧ kindOf c = 3) ∨ (startOf c = 11 ∧ kindOf c = 3) ∨ (startOf c = 12 ∧ kindOf c = 3) := by
  by_cases h1 : c = 91
  · subst h1; decide
  by_cases h2 : c = 123
  · subst h2; decide
  by_cases h3 : c = 34
  · subst h3; decide
  by_cases h4 : c = 116
  · subst h4; decide
  by_cases h5 : c = 102
  · subst h5; decide
  by_cases h6 : c = 110
  · subst h6; decide
  have hk : kindOf c = 3 := by simp [kindOf, h1, h2, h3, h4, h5, h6]
  by_cases h7 : c = 45
  · subst h7; decide
  by_cases h8 : c = 48
  · subst h8; decide
  by_cases h9 : 48 ≤ c ∧ c ≤ 57
  · have hs : startOf c = 12 := by simp [startOf, h1, h2, h3, h4, h5, h6, h7, h8, h9]
    omega
  · have hs : startOf c = 19 := by
      unfold startOf
      rw [if_neg h1, if_neg h2, if_neg h3, if_neg (by omega), if_neg h7, if_neg h8, if_neg h9]
    omega

section
variable (oa : Option Addr) (ol oc : Nat) (nx : Int) (wd : ByteArray) (hx : Int) (nm : Bool) (ck at' : Int) (hn : Bool) (sa : Option Addr) (sl sc : Nat) (pa : Option Addr) (pl pc : Nat) (ls : Int) (ra : Option Addr) (rl rc : Nat)

set_option maxHeartbeats 1600000 in
/-- The early ways out. -/
theorem law3_out (w : World) (h1 : ol ≤ maxLen) (h2 : wd.size ≤ maxLen) (h3 : sl ≤ maxLen) (h4 : pl ≤ maxLen) (h5 : rl ≤ maxLen)
    (h : ¬ (ol + wd.size + 8 * sl + 8 * pl + rl ≤ 1048576 ∧ 0 < rl ∧ ol < 10000)) :
    Calls Try.prog 3 #[cfv oa ol oc nx wd hx nm ck at' hn sa sl sc pa pl pc ls, .slice ra rl rc] w fun e w' => e = .returned (.bool true) ∧ w.grownBy w' none := by
  have g0 := World.grownBy_alloc w (.cells #[.slice oa ol oc, .int .u8 nx, .string wd, .int .i64 hx, .bool nm, .int .i64 ck, .int .i64 at', .bool hn, .slice sa sl sc, .slice pa pl pc, .int .i64 ls] 25) none
  have hB0 := heap_alloc_new w (.cells #[.slice oa ol oc, .int .u8 nx, .string wd, .int .i64 hx, .bool nm, .int .i64 ck, .int .i64 at', .bool hn, .slice sa sl sc, .slice pa pl pc, .int .i64 ls] 25)
  have HB0 := hide hB0
  clear hB0
  unfold maxLen at *
  by_cases hA : ol + wd.size + sl + pl + rl ≤ 1048576
  · have dA : decide (ol + wd.size + sl + pl + rl ≤ 1048576) = true := by simpa using hA
    by_cases hB : ol + wd.size + 8 * sl + 8 * pl ≤ 1048576
    · have dB : decide (ol + wd.size + 8 * sl + 8 * pl ≤ 1048576) = true := by simpa using hB
      have hrl : rl ≤ 1048576 := by omega
      have hol : ol ≤ 1048576 := by omega
      have hwd : wd.size ≤ 1048576 := by omega
      have hsl : sl ≤ 1048576 := by omega
      have hpl : pl ≤ 1048576 := by omega
      have dr : decide ((1048576 : Int) < (rl : Int)) = false := by simp; omega
      by_cases hC : ol + wd.size + 8 * sl + 8 * pl + rl ≤ 1048576
      · have hD : rl = 0 ∨ 10000 ≤ ol := by omega
        go_enter Try.func3, Try.ntmps3
        go_wp2_with fail
        refine (bytes7 oa ol oc nx wd hx nm ck at' hn sa sl sc pa pl pc ls ra rl rc _ h1 h2 h3 h4 h5).mono ?_
        rintro e w1 ⟨rfl, g1⟩
        have hB1 := box_kept (unhide HB0) g1
        have c1 := fun j => cell_of_row w1 _ j _ _ _ hB1
        have HB1 := hide hB1
        clear hB1
        go_wp2_with fail
        refine (fit8 oa ol oc nx wd hx nm ck at' hn sa sl sc pa pl pc ls _ h1 h2 h3 h4).mono ?_
        rintro e w2 ⟨rfl, g2⟩
        have hB2 := box_kept (unhide HB1) g2
        have c2 := fun j => cell_of_row w2 _ j _ _ _ hB2
        have HB2 := hide hB2
        clear hB2 c1
        go_wp2_with fail
        refine (bytes9 oa ol oc nx wd hx nm ck at' hn sa sl sc pa pl pc ls _ hol hwd hsl hpl).mono ?_
        rintro e w3 ⟨rfl, g3⟩
        have hB3 := box_kept (unhide HB2) g3
        have c3 := fun j => cell_of_row w3 _ j _ _ _ hB3
        clear hB3 c2
        rcases hD with rfl | hD
        · go_wp2_with fail
          go_ret
          exact ⟨rfl, ((g0.trans g1).trans g2).trans g3⟩
        · go_wp2_with fail
          all_goals go_ret
          all_goals exact ⟨rfl, ((g0.trans g1).trans g2).trans g3⟩
      · go_enter Try.func3, Try.ntmps3
        go_wp2_with fail
        refine (bytes7 oa ol oc nx wd hx nm ck at' hn sa sl sc pa pl pc ls ra rl rc _ h1 h2 h3 h4 h5).mono ?_
        rintro e w1 ⟨rfl, g1⟩
        have hB1 := box_kept (unhide HB0) g1
        have c1 := fun j => cell_of_row w1 _ j _ _ _ hB1
        have HB1 := hide hB1
        clear hB1
        go_wp2_with fail
        refine (fit8 oa ol oc nx wd hx nm ck at' hn sa sl sc pa pl pc ls _ h1 h2 h3 h4).mono ?_
        rintro e w2 ⟨rfl, g2⟩
        have hB2 := box_kept (unhide HB1) g2
        have c2 := fun j => cell_of_row w2 _ j _ _ _ hB2
        clear hB2 c1
        go_wp2_with fail
        refine (bytes9 oa ol oc nx wd hx nm ck at' hn sa sl sc pa pl pc ls _ hol hwd hsl hpl).mono ?_
        rintro e w3 ⟨rfl, g3⟩
        clear c2
        go_wp2_with fail
        go_ret
        exact ⟨rfl, ((g0.trans g1).trans g2).trans g3⟩
    · have dB : decide (ol + wd.size + 8 * sl + 8 * pl ≤ 1048576) = false := by simpa using hB
      go_enter Try.func3, Try.ntmps3
      go_wp2_with fail
      refine (bytes7 oa ol oc nx wd hx nm ck at' hn sa sl sc pa pl pc ls ra rl rc _ h1 h2 h3 h4 h5).mono ?_
      rintro e w1 ⟨rfl, g1⟩
      have hB1 := box_kept (unhide HB0) g1
      have c1 := fun j => cell_of_row w1 _ j _ _ _ hB1
      have HB1 := hide hB1
      clear hB1
      go_wp2_with fail
      refine (fit8 oa ol oc nx wd hx nm ck at' hn sa sl sc pa pl pc ls _ h1 h2 h3 h4).mono ?_
      rintro e w2 ⟨rfl, g2⟩
      clear c1
      go_wp2_with fail
      go_ret
      exact ⟨rfl, (g0.trans g1).trans g2⟩
  · have dA : decide (ol + wd.size + sl + pl + rl ≤ 1048576) = false := by simpa using hA
    go_enter Try.func3, Try.ntmps3
    go_wp2_with fail
    refine (bytes7 oa ol oc nx wd hx nm ck at' hn sa sl sc pa pl pc ls ra rl rc _ h1 h2 h3 h4 h5).mono ?_
    rintro e w1 ⟨rfl, g1⟩
    go_wp2_with fail
    go_ret
    exact ⟨rfl, g0.trans g1⟩

set_option maxRecDepth 100000 in
set_option maxHeartbeats 3200000 in
theorem law3_in (b off : Nat) (zo zs zp zr : Nat → Int) (w : World) (hC : ol + wd.size + 8 * sl + 8 * pl + rl ≤ 1048576) (hr : 0 < rl) (ho : ol < 10000)
    (ro : Rd .u8 w oa ol zo) (rs : Rd .i64 w sa sl zs) (rp : Rd .i64 w pa pl zp) (co : oa = none → oc = 0) (cs : sa = none → sc = 0) (cp : pa = none → pc = 0)
    (hcr : ∀ j, j < rl → w.cell? ⟨b, off + j, none⟩ = some (.int .u8 (zr j))) :
    Calls Try.prog 3 #[cfv oa ol oc nx wd hx nm ck at' hn sa sl sc pa pl pc ls, .slice (some ⟨b, off, none⟩) rl rc] w fun e w' => e = .returned (.bool true) ∧ Below w.heap.size w w' := by
  have g0 := World.grownBy_alloc w (.cells #[.slice oa ol oc, .int .u8 nx, .string wd, .int .i64 hx, .bool nm, .int .i64 ck, .int .i64 at', .bool hn, .slice sa sl sc, .slice pa pl pc, .int .i64 ls] 25) none
  have hB0 := heap_alloc_new w (.cells #[.slice oa ol oc, .int .u8 nx, .string wd, .int .i64 hx, .bool nm, .int .i64 ck, .int .i64 at', .bool hn, .slice sa sl sc, .slice pa pl pc, .int .i64 ls] 25)
  have HB0 := hide hB0
  clear hB0
  have h1 : ol ≤ maxLen := by unfold maxLen; omega
  have h2 : wd.size ≤ maxLen := by unfold maxLen; omega
  have h3 : sl ≤ maxLen := by unfold maxLen; omega
  have h4 : pl ≤ maxLen := by unfold maxLen; omega
  have h5 : rl ≤ maxLen := by unfold maxLen; omega
  have dA : decide (ol + wd.size + sl + pl + rl ≤ 1048576) = true := by simp; omega
  have dB : decide (ol + wd.size + 8 * sl + 8 * pl ≤ 1048576) = true := by simp; omega
  have hrl : rl ≤ 1048576 := by omega
  have hol : ol ≤ 1048576 := by omega
  have hwd : wd.size ≤ 1048576 := by omega
  have hsl : sl ≤ 1048576 := by omega
  have hpl : pl ≤ 1048576 := by omega
  have dr : decide ((1048576 : Int) < (rl : Int)) = false := by simp; omega
  have dr0 : ((rl : Int) == 0) = false := by simp; omega
  have HCr : Hid (∀ j, j < rl → w.cell? ⟨b, off + j, none⟩ = some (.int .u8 (zr j))) := hcr
  clear hcr
  have hneq := fun wx => run_neq_slice_nil_any (P := Try.prog) wx 22 5 (some ⟨b, off, none⟩) rl rc 0 0 Try.underlying22
  go_enter Try.func3, Try.ntmps3
  go_wp2_with fail
  refine (bytes7 oa ol oc nx wd hx nm ck at' hn sa sl sc pa pl pc ls _ rl rc _ h1 h2 h3 h4 h5).mono ?_
  rintro e w1 ⟨rfl, g1⟩
  have hB1 := box_kept (unhide HB0) g1
  have c1 := fun j => cell_of_row w1 _ j _ _ _ hB1
  have HB1 := hide hB1
  clear hB1
  go_wp2_with fail
  refine (fit8 oa ol oc nx wd hx nm ck at' hn sa sl sc pa pl pc ls _ h1 h2 h3 h4).mono ?_
  rintro e w2 ⟨rfl, g2⟩
  have hB2 := box_kept (unhide HB1) g2
  have c2 := fun j => cell_of_row w2 _ j _ _ _ hB2
  have HB2 := hide hB2
  clear hB2 c1
  go_wp2_with fail
  refine (bytes9 oa ol oc nx wd hx nm ck at' hn sa sl sc pa pl pc ls _ hol hwd hsl hpl).mono ?_
  rintro e w3 ⟨rfl, g3⟩
  have hB3 := box_kept (unhide HB2) g3
  have c3 := fun j => cell_of_row w3 _ j _ _ _ hB3
  have HB3 := hide hB3
  have gw3 := ((g0.trans g1).trans g2).trans g3
  clear hB3 c2 g0 g1 g2 g3 HB0 HB1 HB2
  go_wp2_with (first
    | (at_make; refine wpList_make_is rfl _ _ 22 rfl 5 (.int .u8 0) 1 Try.underlying22 Try.info5 rfl .i64 .i64 _ _ rl rfl rfl rfl rfl (by omega) (by omega) ?_; intro w4 hr4 hg4 hs4)
    | (refine wpList_copy_is rfl (.tmp 41) (.tmp 42) 22 22 rfl 5 Try.underlying22 Try.size5 _ rl _ _ _ rfl rfl 5 _ (fun j => .int .u8 (zr j)) hr4 ?_ (fun _ _ => rfl) ?_))
  · intro j hj
    rw [addp]
    exact hg4.cell (gw3.cell (unhide HCr j hj) (by simp)) (by simp)
  intro w5 hr5 hg5 hs5
  have g35 : w3.grownBy w5 none := hg4.andThen hg5 (fun j hj => .inl (by simp at hj; omega))
  have gw5 := gw3.trans g35
  have hB5 := box_kept (unhide HB3) g35
  have hRB : w.heap.size ≠ w3.heap.size := by have := lt_of_block (unhide HB3); omega
  have c5 := fun j => cell_of_row w5 _ j _ _ _ hB5
  have HB5 := hide hB5
  clear hB5 hr4 hg4 hs4 hg5 hs5 g35 HB3 c3 gw3 hneq
  go_wp2_with fail
  refine (clone10 oa ol oc nx wd hx nm ck at' hn sa sl sc pa pl pc ls zo zs zp _ hol hsl hpl (ro.grown gw5) (rs.grown gw5) (rp.grown gw5) co cs cp).mono ?_
  rintro e w6 ⟨oa', sa', pa', rfl, o6, s6, p6, g6⟩
  have hB6 := box_kept (unhide HB5) g6
  have hr6 := rowIs_grown hr5 g6 (by simp)
  have gw6 := gw5.trans g6
  clear HB5 c5 hr5 g6
  have HB6 := hide hB6
  clear hB6
  go_wp2_with (refine wpList_store_is rfl 25 (.tmp 2) (.tmp 46) rfl w.heap.size 25 _ #[.slice oa' ol ol, .int .u8 nx, .string wd, .int .i64 hx, .bool nm, .int .i64 ck, .int .i64 at', .bool hn, .slice sa' sl sl, .slice pa' pl pl, .int .i64 ls] (by rfl) (by rfl) (unhide HB6) (by rfl) Try.size25 (by simp [Value.oneCell']) ?_)
  intro w7 hB7 g7 hs7
  have o7 := o6.kept g7 (unhide HB6) (by decide)
  have s7 := s6.kept g7 (unhide HB6) (by decide)
  have p7 := p6.kept g7 (unhide HB6) (by decide)
  have hr7 := rowIs_grown hr6 g7 (by simpa using Ne.symm hRB)
  have gw7 := gw6.andThen g7 (by simp)
  have c7 := fun j => cell_of_row w7 _ j _ _ _ hB7
  clear hB7 o6 s6 p6 hr6 gw6 g7 HB6 hs7
  go_wp2_with fail
  refine (new11 nx wd hx nm ck at' hn ls oa' ol ol sa' sl sl pa' pl pl zo zs zp w7 hol hsl hpl o7.rd s7.rd p7.rd ?_ ?_ ?_).mono ?_
  · intro h; rcases o7 with ⟨_, h⟩ | ⟨g, h', _⟩
    · exact h
    · rw [h] at h'; cases h'
  · intro h; rcases s7 with ⟨_, h⟩ | ⟨g, h', _⟩
    · exact h
    · rw [h] at h'; cases h'
  · intro h; rcases p7 with ⟨_, h⟩ | ⟨g, h', _⟩
    · exact h
    · rw [h] at h'; cases h'
  rintro e w8 ⟨B, oa8, np, rfl, hBl, hB8, o8, n8, g8⟩
  have hr8 := rowIs_grown hr7 g8 (by simp)
  have gw8 := gw7.trans g8
  have hc8 := hr8.cell hr
  have hRl := hr7.lt
  have hBw : w.heap.size ≤ B := Nat.le_trans gw7.size hBl
  have b7 : w.heap.size ≤ w7.heap.size := gw7.size
  have HB8 := hide hB8
  clear hB8 c7 o7 s7 p7 hr7 g8 ro rs rp
  go_wp2_with fail
  refine (start12 w7.heap.size B oa8 ol zo _ _ _ _ _ at' np hn sl zs pl zp ls (zr 0) w8 ho hsl hBl (unhide HB8) o8 n8).mono ?_
  rintro e w9 ⟨rfl, b9, hn9, ht9, hf9⟩
  have hc9 : w9.cell? ⟨w3.heap.size, 0, none⟩ = some (.int .u8 (zr 0)) := (b9.cell hRl).trans hc8
  have bw9 : Below w.heap.size w w9 := ((Below.refl _ _).grown gw8 (Nat.le_refl _) (by simp)).trans (b9.mono b7)
  have HN9 := hide hn9
  have HT9 := hide ht9
  have HF9 := hide hf9
  clear hn9 ht9 hf9 b9 hc8 hr8 HB8 o8 n8 gw8
  go_wp2_with fail
  refine (kind13 _ 0 rl rl (zr 0) _ hr hc9).mono ?_
  rintro e w10 ⟨rfl, b10⟩
  have bw10 := bw9.trans (b10.mono bw9.size)
  rcases start_kind (zr 0) with ⟨hs, hk⟩ | ⟨hs, hk⟩ | ⟨hs, hk⟩ | ⟨hs, hk⟩ | ⟨hs, hk, hc⟩ | ⟨hs, hk, hc⟩ | ⟨hs, hk, hc⟩ | ⟨hs, hk⟩ | ⟨hs, hk⟩ | ⟨hs, hk⟩
  case inr.inr.inr.inr.inl =>
    have hw := cell_later b10 (unhide HN9 hc)
    clear hc
    go_wp2_with (go_at_call 14; refine (word14 _ _ _ hw).mono ?_; rintro e w11 ⟨rfl, rfl⟩)
    go_ret
    exact ⟨ret_bool (by simp), bw10⟩
  case inr.inr.inr.inr.inr.inl =>
    have hw := cell_later b10 (unhide HT9 hc)
    clear hc
    go_wp2_with (go_at_call 14; refine (word14 _ _ _ hw).mono ?_; rintro e w11 ⟨rfl, rfl⟩)
    go_ret
    exact ⟨ret_bool (by simp), bw10⟩
  case inr.inr.inr.inr.inr.inr.inl =>
    have hw := cell_later b10 (unhide HF9 hc)
    clear hc
    go_wp2_with (go_at_call 14; refine (word14 _ _ _ hw).mono ?_; rintro e w11 ⟨rfl, rfl⟩)
    go_ret
    exact ⟨ret_bool (by simp), bw10⟩
  all_goals
    go_wp2_with fail
    go_ret
    exact ⟨ret_bool (by simp), bw10⟩
end
end Go.Proofs.Qxb6602576a
