import Derived.Test.Qxb6602576aClone
namespace Go.Proofs.Qxb6602576a
open Go.RowKit

/-- The struct of a checker's fields, as a value. -/
abbrev cfv (oa : Option Addr) (ol oc : Nat) (nx : Int) (wd : ByteArray) (hx : Int) (nm : Bool) (ck at' : Int) (hn : Bool) (sa : Option Addr) (sl sc : Nat) (pa : Option Addr) (pl pc : Nat) (ls : Int) : Value :=
  .agg #[.slice oa ol oc, .int .u8 nx, .string wd, .int .i64 hx, .bool nm, .int .i64 ck, .int .i64 at', .bool hn, .slice sa sl sc, .slice pa pl pc, .int .i64 ls]

variable (oa : Option Addr) (ol oc : Nat) (nx : Int) (wd : ByteArray) (hx : Int) (nm : Bool) (ck at' : Int) (hn : Bool) (sa : Option Addr) (sl sc : Nat) (pa : Option Addr) (pl pc : Nat) (ls : Int)

theorem bytes9 (w : World) (h1 : ol ≤ 1048576) (h2 : wd.size ≤ 1048576) (h3 : sl ≤ 1048576) (h4 : pl ≤ 1048576) :
    Calls Try.prog 9 #[cfv oa ol oc nx wd hx nm ck at' hn sa sl sc pa pl pc ls] w fun e w' => e = .returned (.int .i64 (ol + wd.size + 8 * sl + 8 * pl)) ∧ w.grownBy w' none := by
  go_enter Try.func9, Try.ntmps9
  go_wp2
  go_ret
  exact ⟨rfl, World.grownBy_alloc _ _ _⟩

set_option maxHeartbeats 400000 in
theorem fit8 (w : World) (h1 : ol ≤ maxLen) (h2 : wd.size ≤ maxLen) (h3 : sl ≤ maxLen) (h4 : pl ≤ maxLen) :
    Calls Try.prog 8 #[cfv oa ol oc nx wd hx nm ck at' hn sa sl sc pa pl pc ls] w fun e w' => e = .returned (.bool (decide (ol + wd.size + 8 * sl + 8 * pl ≤ 1048576))) ∧ w.grownBy w' none := by
  unfold maxLen at *
  go_enter Try.func8, Try.ntmps8
  go_wp2_with (go_at_call 9; refine (bytes9 oa ol oc nx wd hx nm ck at' hn sa sl sc pa pl pc ls _ (by omega) (by omega) (by omega) (by omega)).mono ?_; rintro e w1 ⟨rfl, hg1⟩)
  all_goals go_ret
  · exact ⟨ret_bool (by symm; apply decide_eq_false; omega), World.grownBy_alloc _ _ _⟩
  · exact ⟨ret_bool (by rw [decide_eq_decide]; omega), (World.grownBy_alloc _ _ _).andThen hg1 (by simp)⟩
  all_goals exact ⟨ret_bool (by symm; apply decide_eq_false; omega), World.grownBy_alloc _ _ _⟩

set_option maxHeartbeats 400000 in
theorem bytes15 (w : World) (h1 : ol ≤ maxLen) (h2 : wd.size ≤ maxLen) (h3 : sl ≤ maxLen) (h4 : pl ≤ maxLen) :
    Calls Try.prog 15 #[cfv oa ol oc nx wd hx nm ck at' hn sa sl sc pa pl pc ls] w fun e w' => e = .returned (.bool (decide (ol + wd.size + sl + pl ≤ 1048576))) ∧ w.grownBy w' none := by
  unfold maxLen at *
  go_enter Try.func15, Try.ntmps15
  go_wp2_with fail
  all_goals go_ret
  all_goals refine ⟨ret_bool ?_, World.grownBy_alloc _ _ _⟩
  all_goals (first | (symm; apply decide_eq_true; omega) | (symm; apply decide_eq_false; omega))

set_option maxHeartbeats 400000 in
theorem bytes18 (d0 d1 d2 d3 : Int) (w : World) (h1 : ol ≤ maxLen) (h2 : wd.size ≤ maxLen) (h3 : sl ≤ maxLen) (h4 : pl ≤ maxLen) :
    Calls Try.prog 18 #[cfv oa ol oc nx wd hx nm ck at' hn sa sl sc pa pl pc ls, .int .u8 d0, .int .u8 d1, .int .u8 d2, .int .u8 d3] w fun e w' => e = .returned (.bool (decide (ol + wd.size + sl + pl ≤ 1048576))) ∧ w.grownBy w' none := by
  unfold maxLen at *
  go_enter Try.func18, Try.ntmps18
  go_wp2_with fail
  all_goals go_ret
  all_goals refine ⟨ret_bool ?_, World.grownBy_alloc _ _ _⟩
  all_goals (first | (symm; apply decide_eq_true; omega) | (symm; apply decide_eq_false; omega))

set_option maxHeartbeats 400000 in
theorem bytes7 (ra : Option Addr) (rl rc : Nat) (w : World) (h1 : ol ≤ maxLen) (h2 : wd.size ≤ maxLen) (h3 : sl ≤ maxLen) (h4 : pl ≤ maxLen) (h5 : rl ≤ maxLen) :
    Calls Try.prog 7 #[cfv oa ol oc nx wd hx nm ck at' hn sa sl sc pa pl pc ls, .slice ra rl rc] w fun e w' => e = .returned (.bool (decide (ol + wd.size + sl + pl + rl ≤ 1048576))) ∧ w.grownBy w' none := by
  unfold maxLen at *
  go_enter Try.func7, Try.ntmps7
  go_wp2_with fail
  all_goals go_ret
  all_goals refine ⟨ret_bool ?_, World.grownBy_alloc _ _ _⟩
  all_goals (first | (symm; apply decide_eq_true; omega) | (symm; apply decide_eq_false; omega))

set_option maxHeartbeats 1000000 in
/-- What rjb1CloneFields leaves: the same fields, the three slices fresh copies. -/
theorem clone10 (zo zs zp : Nat → Int) (w : World) (h1 : ol ≤ 1048576) (h3 : sl ≤ 1048576) (h4 : pl ≤ 1048576)
    (ro : Rd .u8 w oa ol zo) (rs : Rd .i64 w sa sl zs) (rp : Rd .i64 w pa pl zp) (co : oa = none → oc = 0) (cs : sa = none → sc = 0) (cp : pa = none → pc = 0) :
    Calls Try.prog 10 #[cfv oa ol oc nx wd hx nm ck at' hn sa sl sc pa pl pc ls] w fun e w' => ∃ oa' sa' pa', e = .returned (cfv oa' ol ol nx wd hx nm ck at' hn sa' sl sl pa' pl pl ls) ∧
      Own 5 .u8 w.heap.size w' oa' ol zo ∧ Own 3 .i64 w.heap.size w' sa' sl zs ∧ Own 3 .i64 w.heap.size w' pa' pl zp ∧ w.grownBy w' none := by
  go_enter Try.func10, Try.ntmps10
  go_wp2_with fail
  have g0 := (World.grownBy_alloc w (.cells #[.slice oa ol oc, .int .u8 nx, .string wd, .int .i64 hx, .bool nm, .int .i64 ck, .int .i64 at', .bool hn, .slice sa sl sc, .slice pa pl pc, .int .i64 ls] 25) none).trans (World.grownBy_alloc _ (.cells #[.slice none 0 0, .int .u8 0, .string ⟨#[]⟩, .int .i64 0, .bool false, .int .i64 0, .int .i64 0, .bool false, .slice none 0 0, .slice none 0 0, .int .i64 0] 25) none)
  have hB0 := heap_alloc2_old w (.cells #[.slice oa ol oc, .int .u8 nx, .string wd, .int .i64 hx, .bool nm, .int .i64 ck, .int .i64 at', .bool hn, .slice sa sl sc, .slice pa pl pc, .int .i64 ls] 25) (.cells #[.slice none 0 0, .int .u8 0, .string ⟨#[]⟩, .int .i64 0, .bool false, .int .i64 0, .int .i64 0, .bool false, .slice none 0 0, .slice none 0 0, .int .i64 0] 25)
  have hR0 := heap_alloc2_new w (.cells #[.slice oa ol oc, .int .u8 nx, .string wd, .int .i64 hx, .bool nm, .int .i64 ck, .int .i64 at', .bool hn, .slice sa sl sc, .slice pa pl pc, .int .i64 ls] 25) (.cells #[.slice none 0 0, .int .u8 0, .string ⟨#[]⟩, .int .i64 0, .bool false, .int .i64 0, .int .i64 0, .bool false, .slice none 0 0, .slice none 0 0, .int .i64 0] 25)
  refine (clone22 oa ol oc zo _ co h1 (ro.grown g0)).mono ?_
  rintro e w1 ⟨oa', rfl, ho1, hg1⟩
  have hB1 := (hg1.block w.heap.size (by simp; omega) (by simp)).trans hB0
  have hR1 := (hg1.block (w.heap.size + 1) (by simp) (by simp)).trans hR0
  have g1 := g0.trans hg1
  replace ho1 : Own 5 .u8 w.heap.size w1 oa' ol zo := ho1.mono (by simp; omega)
  clear hB0 hR0 hg1
  have c1 := fun j => cell_of_row w1 _ j _ _ _ hB1
  have f1 := fun j => frozen_of_row w1 _ j _ _ hB1
  go_wp2_with fail
  have gs := grown_set w1 w.heap.size 0 (.slice oa' ol ol)
  have hB1' := heap_setCell_same w1 w.heap.size 0 _ _ (.slice oa' ol ol) hB1
  have hR1' := (gs.block (w.heap.size + 1) (lt_of_block hR1) (by simp)).trans hR1
  have g1' := g1.andThen gs (by simp)
  replace ho1 := ho1.kept gs hB1 (by decide)
  clear c1 f1 hB1 hR1 gs g1
  refine (clone23 sa sl sc zs _ cs h3 (rs.grown g1')).mono ?_
  rintro e w2 ⟨sa', rfl, ho2, hg2⟩
  have hB2 := (hg2.block w.heap.size (lt_of_block hB1') (by simp)).trans hB1'
  have hR2 := (hg2.block (w.heap.size + 1) (lt_of_block hR1') (by simp)).trans hR1'
  simp at hB2
  have g2 := g1'.trans hg2
  replace ho1 := ho1.kept0 hg2
  replace ho2 : Own 3 .i64 w.heap.size w2 sa' sl zs := ho2.mono g1'.size
  clear hB1' hR1' hg2 g1' g0
  have c1 := fun j => cell_of_row w2 _ j _ _ _ hB2
  have f1 := fun j => frozen_of_row w2 _ j _ _ hB2
  go_wp2_with fail
  have gs := grown_set w2 w.heap.size 8 (.slice sa' sl sl)
  have hB2' := heap_setCell_same w2 w.heap.size 8 _ _ (.slice sa' sl sl) hB2
  have hR2' := (gs.block (w.heap.size + 1) (lt_of_block hR2) (by simp)).trans hR2
  have g2' := g2.andThen gs (by simp)
  replace ho1 := ho1.kept gs hB2 (by decide)
  replace ho2 := ho2.kept gs hB2 (by decide)
  clear c1 f1 hB2 hR2 gs g2
  refine (clone23 pa pl pc zp _ cp h4 (rp.grown g2')).mono ?_
  rintro e w3 ⟨pa', rfl, ho3, hg3⟩
  have hB3 := (hg3.block w.heap.size (lt_of_block hB2') (by simp)).trans hB2'
  have hR3 := (hg3.block (w.heap.size + 1) (lt_of_block hR2') (by simp)).trans hR2'
  simp at hB3
  have g3 := g2'.trans hg3
  replace ho1 := ho1.kept0 hg3
  replace ho2 := ho2.kept0 hg3
  replace ho3 : Own 3 .i64 w.heap.size w3 pa' pl zp := ho3.mono g2'.size
  clear hB2' hR2' hg3 g2'
  have c1 := fun j => cell_of_row w3 _ j _ _ _ hB3
  have f1 := fun j => frozen_of_row w3 _ j _ _ hB3
  have c2 := fun j => cell_of_row w3 _ j _ _ _ hR3
  have f2 := fun j => frozen_of_row w3 _ j _ _ hR3
  have n1 := ho1.ne hB3 (by decide)
  have m1 := ho1.ne hR3 (by decide)
  have n2 := ho2.ne hB3 (by decide)
  have m2 := ho2.ne hR3 (by decide)
  have n3 := ho3.ne hB3 (by decide)
  have m3 := ho3.ne hR3 (by decide)
  clear hB3 hR3
  go_wp2_with fail
  refine bodyPost_ret (v := cfv oa' ol ol nx wd hx nm ck at' hn sa' sl sl pa' pl pl ls) (by simp [results, Try.results10, go_sem, c2]) rfl ⟨oa', sa', pa', rfl, ?_, ?_, ?_, ?_⟩
  · iterate 11 refine Own.set m1 ?_
    exact Own.set n1 ho1
  · iterate 11 refine Own.set m2 ?_
    exact Own.set n2 ho2
  · iterate 11 refine Own.set m3 ?_
    exact Own.set n3 ho3
  · iterate 12 refine World.grownBy.andThen ?_ (grown_set _ _ _ _) (by simp)
    exact g3
end Go.Proofs.Qxb6602576a
