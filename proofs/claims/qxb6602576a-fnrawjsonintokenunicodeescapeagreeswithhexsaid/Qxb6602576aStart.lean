import Derived.Test.Qxb6602576aNew11
namespace Go.Proofs.Qxb6602576a
open Go.RowKit
attribute [local go_sem ↓] Go.wp_at_zero Go.wp_at_succ

theorem Own.ownsRow {t : TypeId} {k : IntKind} {base : Nat} {w : World} {a : Option Addr} {len : Nat} {z : Nat → Int} (h : Own t k base w a len z) (hm : len ≤ maxLen) :
    w.ownsRow base t 1 (.slice a len len) len ((List.range len).map fun j => .int k (z j)) := by
  refine ⟨by simp, ?_⟩
  rcases h with ⟨rfl, rfl⟩ | ⟨g, rfl, hb, c, hc, hs, hv⟩
  · exact .inl ⟨rfl, rfl⟩
  · refine .inr ⟨g, len, c, rfl, hb, hc, Nat.le_refl _, hm, by simpa using hs, ?_⟩
    apply List.ext_getElem?
    intro i
    by_cases hi : i < len
    · have := hv i hi
      simp [hi, this]
    · rw [List.getElem?_eq_none (by simp; omega), List.getElem?_eq_none (by simp; omega)]

theorem box_kept {w w' : World} {b : Nat} {o : Obj} (hB : w.heap[b]? = some o) (hg : w.grownBy w' none) : w'.heap[b]? = some o := (hg.block b (lt_of_block hB) (by simp)).trans hB

/-- A whole struct stored over a block of its own. -/
theorem run_storeVar_is {P : Program} (w : World) (b : Nat) (t ty : TypeId) (cur cells : Array Value) (hb : w.heap[b]? = some (.cells cur t (0, 0))) (hsz : cur.size = cells.size) (hi : (P.info? ty).map (·.size) = some cells.size) (h1 : cells.all (·.oneCell') = true) :
    (storeVar ty ⟨b, 0, none⟩ (.agg cells)).run P w = .ok () (w.setRow b cells) := by
  have := run_storeCells_at P b 0 t cells.toList 0 cur w hb (by simp [hsz]) (fun v hv => (Array.all_eq_true_iff_forall_mem.1 h1) v (by simpa using hv))
  cases hq : P.info? ty with
  | none => simp [hq] at hi
  | some i =>
    have hs : cells.size = i.size := by simp [hq] at hi; omega
    have e : (cur.toList.take (0 + 0) ++ cells.toList ++ cur.toList.drop (0 + 0 + cells.toList.length)).toArray = cells := by
      have : cur.toList.drop (0 + 0 + cells.toList.length) = [] := List.drop_eq_nil_of_le (by simp [hsz])
      rw [this]; simp
    rw [e] at this
    simp [storeVar, sizeOf, typeInfo, hq, Value.cells, hs, this]

theorem wpList_store_is {P : Program} {ops : Array Oper} {rest : List Oper} {op : Oper} {a : Act} {w : World} {Q : Exit → Act → World → Prop} (hgd : op.guard = none) (ty : TypeId) (x y : Operand) (ho : op.op = .store ty x y)
    (b : Nat) (t : TypeId) (cur cells : Array Value) (hx : a.eval x = .pointer (some ⟨b, 0, none⟩)) (hy : a.eval y = .agg cells) (hb : w.heap[b]? = some (.cells cur t (0, 0))) (hsz : cur.size = cells.size)
    (hi : (P.info? ty).map (·.size) = some cells.size) (h1 : cells.all (·.oneCell') = true)
    (h : ∀ w', w'.heap[b]? = some (.cells cells t (0, 0)) → w.grownBy w' (some b) → w'.heap.size = w.heap.size → wpList P ops Q rest (a.put op.dst undef) w') : wpList P ops Q (op :: rest) a w := by
  refine wpList_plain hgd fun K hK => ?_
  unfold Oper.wp execOp
  simp only [ho, hx, hy, Instr.storeAt, Instr.sureAddr, Sem.run_bind, Sem.run_pure, Result.andThen_ok, run_storeVar_is w b t ty cur cells hb hsz hi h1]
  exact hK _ _ (h _ (setRow_heap w b cur _ t _ hb) ⟨rfl, rfl, rfl, by simp, fun k _ hne => setRow_other w b k _ (fun e => hne (by rw [e]))⟩ (by simp))

/-- Blocks of other types than these are as they were. -/
def KeepT (ts : List TypeId) (w w' : World) : Prop := ∀ (k : Nat) (cs : Array Value) (t : TypeId) (fr : Nat × Nat), w.heap[k]? = some (.cells cs t fr) → t ∉ ts → w'.heap[k]? = some (.cells cs t fr)

theorem KeepT.trans {ts : List TypeId} {w w' w'' : World} (h : KeepT ts w w') (h' : KeepT ts w' w'') : KeepT ts w w'' := fun k cs t fr hk ht => h' k cs t fr (h k cs t fr hk ht) ht
theorem KeepT.grown {ts : List TypeId} {w w' : World} {row : Option Nat} (h : w.grownBy w' row) (hr : ∀ (g : Nat) (cs : Array Value) (t : TypeId) (fr : Nat × Nat), row = some g → w.heap[g]? = some (.cells cs t fr) → t ∈ ts) : KeepT ts w w' :=
  fun k cs t fr hk ht => (h.block k (lt_of_block hk) (fun e => ht (hr k cs t fr e.symm hk))).trans hk
theorem KeepT.grown0 {ts : List TypeId} {w w' : World} (h : w.grownBy w' none) : KeepT ts w w' := KeepT.grown h (fun _ _ _ _ e => by cases e)
theorem KeepT.own {ts : List TypeId} {w w' : World} {base : Nat} {e : TypeId} {size n : Nat} {v : Value} {xs : List Value} (ho : w.ownsRow base e size v n xs) (h : w.grownBy w' v.ownBlock) (he : e ∈ ts) : KeepT ts w w' := by
  refine KeepT.grown h (fun g cs t fr hg hh => ?_)
  by_cases ht : t = e
  · rw [ht]; exact he
  · exact absurd hg (ownBlock_ne ho hh ht)
theorem KeepT.set {ts : List TypeId} {w : World} {B i : Nat} {v : Value} {cs : Array Value} {t : TypeId} {fr : Nat × Nat} (hB : w.heap[B]? = some (.cells cs t fr)) (ht : t ∈ ts) : KeepT ts w (w.setCell ⟨B, i, none⟩ v) := by
  refine KeepT.grown (grown_set w B i v) (fun g cs' t' fr' hg hh => ?_)
  obtain rfl : B = g := by simpa using hg
  rw [hB] at hh
  simp at hh
  rw [← hh.2.1]; exact ht

theorem Own.keepT {ts : List TypeId} {t : TypeId} {k : IntKind} {base : Nat} {w w' : World} {a : Option Addr} {len : Nat} {z : Nat → Int} (h : Own t k base w a len z) (hk : KeepT ts w w') (ht : t ∉ ts) : Own t k base w' a len z := by
  rcases h with h | ⟨g, rfl, hb, c, hc, r⟩
  · exact .inl h
  · exact .inr ⟨g, rfl, hb, c, hk _ _ _ _ hc ht, r⟩

/-- The kind of step that start takes at a value's first byte. -/
def startOf (c : Int) : Int :=
  if c = 91 then 1 else if c = 123 then 2 else if c = 34 then 6 else if c = 116 ∨ c = 102 ∨ c = 110 then 9 else if c = 45 then 10 else if c = 48 then 11 else if 48 ≤ c ∧ c ≤ 57 then 12 else 19

theorem digit43 (c : Int) (w : World) : Calls Try.prog 43 #[.int .u8 c] w fun e w' => e = .returned (.bool (decide (48 ≤ c ∧ c ≤ 57))) ∧ w = w' := by
  go_enter Try.func43, Try.ntmps43
  go_wp2
  all_goals go_ret
  all_goals refine ⟨ret_bool ?_, rfl⟩
  all_goals simp_all
  omega

theorem expect42 (b : Bool) (n : Int) (w : World) : Calls Try.prog 42 #[.bool b, .int .u8 n] w fun e w' => e = .returned (.int .u8 (if b then n else 19)) ∧ w = w' := by
  cases b
  all_goals
    go_enter Try.func42, Try.ntmps42
    go_wp2
    go_ret
    exact ⟨rfl, rfl⟩

set_option maxRecDepth 100000 in
set_option maxHeartbeats 800000 in
theorem open45 (base N : Nat) (sa : Option Addr) (sl : Nat) (zs : Nat → Int) (pv lv : Value) (st : Int) (w : World) (h3 : sl ≤ 1048576) (hbase : base ≤ N)
    (hN : w.heap[N]? = some (.cells #[.slice sa sl sl, pv, lv] 64 (0, 0))) (ho : Own 3 .i64 base w sa sl zs) :
    Calls Try.prog 45 #[.pointer (some ⟨N, 0, none⟩), .int .i64 st] w fun e w' => e = .returned (.tuple #[]) ∧ Below base w w' ∧ KeepT [64, 3] w w' := by
  obtain ⟨i0, hi0, hz0, hz1, hz2⟩ := info_parts Try.info3
  have hcN := cell_of_row w _ 0 _ _ _ hN
  simp at hcN
  have hNl := lt_of_block hN
  have hor := ho.ownsRow (by unfold maxLen; omega)
  have hne := ownBlock_ne hor hN (by decide)
  have hfN := frozen_of_row w _ 0 _ _ hN
  have HN := hide hN
  clear hN
  go_enter Try.func45, Try.ntmps45
  go_wp2_with (at_builtin; refine wpList_append_lies _ rfl _ _ _ rfl base 3 i0 _ 1 8 Try.underlying23 hi0 hz0 hz1 hz2 rfl (by omega) _ _ _ rfl (hor.alloc _) ⟨w.heap.size, 0, none⟩ 1 1 [.int .i64 st] rfl rfl (cell_one_new _ _ _) (by simp [Value.oneCell']) (by omega) (by unfold maxLen; omega) (by omega) (by simp; omega) (w.heap.size + 1) (by simp) ?_; intro g cap w1 hown hgrow hat hlt; have q1 := (hgrow.cell_far ⟨N, 0, none⟩ (by simp; omega) (Ne.symm hne)).trans (World.cell?_alloc_some w ⟨N, 0, none⟩ _ (by rw [hcN]; rfl)); have q2 := (hgrow.frozen_far ⟨N, 0, none⟩ (by simp; omega) (Ne.symm hne)).trans (((World.grownBy_alloc w _ none).frozen_far ⟨N, 0, none⟩ hNl (by simp)).trans hfN))
  go_end0
  refine ⟨rfl, ?_, ?_⟩
  · refine Below.setCell ?_ hbase _
    exact ((Below.refl _ _).alloc (by omega) _).grown hgrow (by simp; omega) (fun k hk => (hor.lt k hk).1)
  · have k1 : KeepT [64, 3] w w1 := (KeepT.grown0 (World.grownBy_alloc w _ none)).trans (KeepT.own (hor.alloc _) hgrow (by decide))
    have hN1 := (hgrow.block N (by simp; omega) (Ne.symm hne)).trans ((Below.heap_alloc w _ N hNl).trans (unhide HN))
    exact k1.trans (KeepT.set hN1 (by decide))

/-- push, where there is room in depth: the step that was asked for. -/
theorem push41 (base B : Nat) (oa : Option Addr) (ol : Nat) (zo : Nat → Int) (nv wv hv mv cv : Value) (at' : Int) (np : Option Addr) (hn : Bool) (sl : Nat) (zs : Nat → Int) (pl : Nat) (zp : Nat → Int) (ls : Int) (c nx : Int) (w : World) (h1 : ol < 10000) (h3 : sl ≤ 1048576) (hbase : base ≤ B)
    (hB : w.heap[B]? = some (.cells #[.slice oa ol ol, nv, wv, hv, mv, cv, .int .i64 at', .pointer np] 56 (0, 0))) (ho : Own 5 .u8 base w oa ol zo) (hN : Nts w base np hn sl zs pl zp ls) :
    Calls Try.prog 41 #[.pointer (some ⟨B, 0, none⟩), .int .u8 c, .int .u8 nx] w fun e w' => e = .returned (.int .u8 nx) ∧ Below base w w' := by
  obtain ⟨i0, hi0, hz0, hz1, hz2⟩ := info_parts Try.info5
  have hBl := lt_of_block hB
  have hor := ho.ownsRow (by unfold maxLen; omega)
  have hne := ownBlock_ne hor hB (by decide)
  have cB := fun j => cell_of_row w _ j _ _ _ hB
  have fB := fun j => frozen_of_row w _ j _ _ hB
  have hd : ((ol : Int) == 10000) = false := by simp; omega
  have HB := hide hB
  clear hB
  go_enter Try.func41, Try.ntmps41
  go_wp2_with (at_builtin; refine wpList_append_lies _ rfl _ _ _ rfl base 5 i0 _ 1 1 Try.underlying22 hi0 hz0 hz1 hz2 rfl (by omega) _ _ _ rfl (hor.alloc _) ⟨w.heap.size, 0, none⟩ 1 1 [.int .u8 c] rfl rfl (cell_one_new _ _ _) (by simp [Value.oneCell']) (by omega) (by unfold maxLen; omega) (by omega) (by simp; omega) (w.heap.size + 1) (by simp) ?_)
  intro g cap w1 hown hgrow hat hlt
  have hB1 := (hgrow.block B (by simp; omega) (Ne.symm hne)).trans ((Below.heap_alloc w _ B hBl).trans (unhide HB))
  have k1 : KeepT [56, 5] w w1 := (KeepT.grown0 (World.grownBy_alloc w _ none)).trans (KeepT.own (hor.alloc _) hgrow (by decide))
  have k2 : KeepT [56, 5] w (w1.setCell ⟨B, 0, none⟩ (.slice (some ⟨g, 0, none⟩) (ol + 1) cap)) := k1.trans (KeepT.set hB1 (by decide))
  have b2 : Below base w (w1.setCell ⟨B, 0, none⟩ (.slice (some ⟨g, 0, none⟩) (ol + 1) cap)) := by
    refine Below.setCell ?_ hbase _
    exact ((Below.refl _ _).alloc (by omega) _).grown hgrow (by simp; omega) (fun k hk => (hor.lt k hk).1)
  have c1 := fun j => cell_of_row w1 _ j _ _ _ hB1
  have f1 := fun j => frozen_of_row w1 _ j _ _ hB1
  clear cB fB
  rcases hN with ⟨_, rfl⟩ | ⟨_, N, sa, pv, rfl, hbN, hN, hos, _⟩
  · go_wp2_with fail
    go_ret
    exact ⟨rfl, b2⟩
  · have hB2 := heap_setCell_same w1 B 0 _ _ (.slice (some ⟨g, 0, none⟩) (ol + 1) cap) hB1
    have hN2 := k2 _ _ _ _ hN (by decide)
    have hos2 := hos.keepT k2 (by decide)
    have HB2 := hide hB2
    have HN2 := hide hN2
    clear hB2 hN2 hN hos hB1
    go_wp2_with fail
    generalize w1.setCell ⟨B, 0, none⟩ (.slice (some ⟨g, 0, none⟩) (ol + 1) cap) = w2 at *
    have hB2 := unhide HB2
    have hN2 := unhide HN2
    simp at hB2
    clear HB2 HN2 c1 f1 k1 k2 hown hgrow hat hlt hor HB hne
    have c2 := fun j => cell_of_row w2 _ j _ _ _ hB2
    have HB2 := hide hB2
    have HN2 := hide hN2
    clear hB2 hN2
    go_region_held3 (fun w' => w'.cell? ⟨B, 7, none⟩ = some (.pointer (some ⟨N, 0, none⟩)) ∧ w'.cell? ⟨B, 6, none⟩ = some (.int .i64 at'))
      (first
        | go_keep
        | (go_split_ands; exact ⟨by rw [cell_of_row _ _ _ _ _ _ hB3]; rfl, by rw [cell_of_row _ _ _ _ _ _ hB3]; rfl⟩))
      ((go_at_call 45; refine (open45 base N sa sl zs pv (.int .i64 ls) at' w2.drew h3 hbN (unhide HN2) hos2).mono ?_; rintro e w3 ⟨rfl, b3, k3⟩; have hB3 := k3 _ _ _ _ (unhide HB2) (by decide)))
    go_wp2
    go_ret
    exact ⟨rfl, b2.drew.trans b3⟩

set_option maxHeartbeats 1600000 in
theorem start25 (base B : Nat) (oa : Option Addr) (ol : Nat) (zo : Nat → Int) (nv wv hv mv cv : Value) (at' : Int) (np : Option Addr) (hn : Bool) (sl : Nat) (zs : Nat → Int) (pl : Nat) (zp : Nat → Int) (ls : Int) (c : Int) (w : World) (h1 : ol < 10000) (h3 : sl ≤ 1048576) (hbase : base ≤ B)
    (hB : w.heap[B]? = some (.cells #[.slice oa ol ol, nv, wv, hv, mv, cv, .int .i64 at', .pointer np] 56 (0, 0))) (ho : Own 5 .u8 base w oa ol zo) (hN : Nts w base np hn sl zs pl zp ls) :
    Calls Try.prog 25 #[.pointer (some ⟨B, 0, none⟩), .int .u8 c] w fun e w' => e = .returned (.int .u8 (startOf c)) ∧ Below base w w' ∧
      (c = 110 → w'.cell? ⟨B, 2, none⟩ = some (.string ⟨#[117, 108, 108]⟩)) ∧ (c = 116 → w'.cell? ⟨B, 2, none⟩ = some (.string ⟨#[114, 117, 101]⟩)) ∧ (c = 102 → w'.cell? ⟨B, 2, none⟩ = some (.string ⟨#[97, 108, 115, 101]⟩)) := by
  have cB := fun j => cell_of_row w _ j _ _ _ hB
  have fB := fun j => frozen_of_row w _ j _ _ hB
  have HB := hide hB
  clear hB
  go_enter Try.func25, Try.ntmps25
  go_wp2_with (first
    | (go_at_call 41; refine (push41 base B oa ol zo nv wv hv mv cv at' np hn sl zs pl zp ls c _ w h1 h3 hbase (unhide HB) ho hN).mono ?_; rintro e w1 ⟨rfl, b1⟩)
    | (go_at_call 43; refine (digit43 _ _).mono ?_; rintro e w1 ⟨rfl, rfl⟩)
    | (go_at_call 42; refine (expect42 _ _ _).mono ?_; rintro e w1 ⟨rfl, rfl⟩))
  all_goals go_ret
  all_goals refine ⟨ret_int ?_, ?_, ?_, ?_, ?_⟩
  all_goals first
    | exact b1
    | exact Below.refl _ _
    | exact (Below.refl _ _).setCell hbase _
    | (intro _; exact World.cell?_setCell_same _ _ _ (cB 2))
    | (unfold startOf; simp_all; done)
    | (unfold startOf; simp_all; omega)
    | (intro h; subst h; simp_all; done)

theorem start12 (base B : Nat) (oa : Option Addr) (ol : Nat) (zo : Nat → Int) (nv wv hv mv cv : Value) (at' : Int) (np : Option Addr) (hn : Bool) (sl : Nat) (zs : Nat → Int) (pl : Nat) (zp : Nat → Int) (ls : Int) (c : Int) (w : World) (h1 : ol < 10000) (h3 : sl ≤ 1048576) (hbase : base ≤ B)
    (hB : w.heap[B]? = some (.cells #[.slice oa ol ol, nv, wv, hv, mv, cv, .int .i64 at', .pointer np] 56 (0, 0))) (ho : Own 5 .u8 base w oa ol zo) (hN : Nts w base np hn sl zs pl zp ls) :
    Calls Try.prog 12 #[.pointer (some ⟨B, 0, none⟩), .int .u8 c] w fun e w' => e = .returned (.int .u8 (startOf c)) ∧ Below base w w' ∧
      (c = 110 → w'.cell? ⟨B, 2, none⟩ = some (.string ⟨#[117, 108, 108]⟩)) ∧ (c = 116 → w'.cell? ⟨B, 2, none⟩ = some (.string ⟨#[114, 117, 101]⟩)) ∧ (c = 102 → w'.cell? ⟨B, 2, none⟩ = some (.string ⟨#[97, 108, 115, 101]⟩)) := by
  have HB := hide hB
  clear hB
  go_enter Try.func12, Try.ntmps12
  go_wp2_with fail
  refine (start25 base B oa ol zo nv wv hv mv cv at' np hn sl zs pl zp ls c w h1 h3 hbase (unhide HB) ho hN).mono ?_
  rintro e w1 ⟨rfl, hr⟩
  have HR := hide hr
  clear hr
  go_wp2_with fail
  go_ret
  exact ⟨rfl, unhide HR⟩

theorem word14 (B : Nat) (wd : ByteArray) (w : World) (hc : w.cell? ⟨B, 2, none⟩ = some (.string wd)) :
    Calls Try.prog 14 #[.pointer (some ⟨B, 0, none⟩)] w fun e w' => e = .returned (.string wd) ∧ w = w' := by
  go_enter Try.func14, Try.ntmps14
  go_wp2
  go_ret
  exact ⟨rfl, rfl⟩
end Go.Proofs.Qxb6602576a
