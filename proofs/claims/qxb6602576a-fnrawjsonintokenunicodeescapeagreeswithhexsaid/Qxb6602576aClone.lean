import Derived.Test.Qxb6602576aProg
import Derived.Test.Qxb6602576aLaws
import Derived.Lib.SliceRun
namespace Go.Proofs.Qxb6602576a
open Go.RowKit

theorem Try.info5 : (Try.prog.info? 5).map (fun i => (i.zero, i.size, i.bytes)) = some (some (.int .u8 0), 1, 1) := by kernel_rfl
theorem Try.info3 : (Try.prog.info? 3).map (fun i => (i.zero, i.size, i.bytes)) = some (some (.int .i64 0), 1, 8) := by kernel_rfl
theorem Try.size5 : (Try.prog.info? 5).map (·.size) = some 1 := by kernel_rfl

/-- A slice of integers as the walk reads it: nil, or a row of 'len' numbers z. -/
def Rd (k : IntKind) (w : World) (a : Option Addr) (len : Nat) (z : Nat → Int) : Prop :=
  (a = none ∧ len = 0) ∨ ∃ x, a = some x ∧ (0 < len → ∃ b off, x = ⟨b, off, none⟩ ∧ ∀ j, j < len → w.cell? ⟨b, off + j, none⟩ = some (.int k (z j)))

/-- A slice of the call's own: nil, or the head of a row of its own from block 'base' on. -/
def Own (t : TypeId) (k : IntKind) (base : Nat) (w : World) (a : Option Addr) (len : Nat) (z : Nat → Int) : Prop :=
  (a = none ∧ len = 0) ∨ ∃ g, a = some ⟨g, 0, none⟩ ∧ base ≤ g ∧ w.rowIs g t len (fun j => .int k (z j))

theorem Own.rd {t : TypeId} {k : IntKind} {base : Nat} {w : World} {a : Option Addr} {len : Nat} {z : Nat → Int} (h : Own t k base w a len z) : Rd k w a len z := by
  rcases h with h | ⟨g, rfl, _, hr⟩
  · exact .inl h
  · exact .inr ⟨⟨g, 0, none⟩, rfl, fun _ => ⟨g, 0, rfl, fun j hj => by simpa using hr.cell hj⟩⟩

theorem Rd.grown {k : IntKind} {w w' : World} {a : Option Addr} {len : Nat} {z : Nat → Int} (h : Rd k w a len z) (hg : w.grownBy w' none) : Rd k w' a len z := by
  rcases h with h | ⟨x, rfl, hx⟩
  · exact .inl h
  · refine .inr ⟨x, rfl, fun h0 => ?_⟩
    obtain ⟨b, off, rfl, hc⟩ := hx h0
    exact ⟨b, off, rfl, fun j hj => hg.cell (hc j hj) (by simp)⟩

theorem Own.kept0 {t : TypeId} {k : IntKind} {base : Nat} {w w' : World} {a : Option Addr} {len : Nat} {z : Nat → Int} (h : Own t k base w a len z) (hg : w.grownBy w' none) : Own t k base w' a len z := by
  rcases h with h | ⟨g, rfl, hb, hr⟩
  · exact .inl h
  · exact .inr ⟨g, rfl, hb, rowIs_grown hr hg (by simp)⟩
/-- A row of another type has been written. -/
theorem Own.kept {t t' : TypeId} {k : IntKind} {base B : Nat} {w w' : World} {a : Option Addr} {len : Nat} {z : Nat → Int} {cs : Array Value} {fr : Nat × Nat} (h : Own t k base w a len z) (hg : w.grownBy w' (some B)) (hB : w.heap[B]? = some (.cells cs t' fr)) (hne : t' ≠ t) : Own t k base w' a len z := by
  rcases h with h | ⟨g, rfl, hb, hr⟩
  · exact .inl h
  · refine .inr ⟨g, rfl, hb, rowIs_grown hr hg (fun e => hne ?_)⟩
    obtain ⟨c, hc, _⟩ := hr
    obtain rfl : g = B := by simpa using e
    rw [hB] at hc
    simp at hc
    exact hc.2.1
theorem Own.ne {t t' : TypeId} {k : IntKind} {base B : Nat} {w : World} {a : Option Addr} {len : Nat} {z : Nat → Int} {cs : Array Value} {fr : Nat × Nat} (h : Own t k base w a len z) (hB : w.heap[B]? = some (.cells cs t' fr)) (hne : t' ≠ t) : ∀ g, a = some ⟨g, 0, none⟩ → g ≠ B := by
  rcases h with ⟨rfl, _⟩ | ⟨g, rfl, hb, hr⟩
  · intro g h; cases h
  · intro g' e eB
    obtain rfl : g = g' := by simpa using e
    obtain ⟨c, hc, _⟩ := hr
    subst eB
    rw [hB] at hc
    simp at hc
    exact hne hc.2.1
theorem Own.set {t : TypeId} {k : IntKind} {base B i : Nat} {v : Value} {w : World} {a : Option Addr} {len : Nat} {z : Nat → Int} (hne : ∀ g, a = some ⟨g, 0, none⟩ → g ≠ B) (h : Own t k base w a len z) : Own t k base (w.setCell ⟨B, i, none⟩ v) a len z := by
  rcases h with h | ⟨g, rfl, hb, hr⟩
  · exact .inl h
  · exact .inr ⟨g, rfl, hb, hr.setOther (hne g rfl) _⟩
theorem Own.mono {t : TypeId} {k : IntKind} {base base' : Nat} {w : World} {a : Option Addr} {len : Nat} {z : Nat → Int} (h : Own t k base w a len z) (hb : base' ≤ base) : Own t k base' w a len z := by
  rcases h with h | ⟨g, rfl, hg, hr⟩
  · exact .inl h
  · exact .inr ⟨g, rfl, Nat.le_trans hb hg, hr⟩

set_option maxHeartbeats 400000 in
theorem clone22 (a : Option Addr) (len cap : Nat) (z : Nat → Int) (w : World) (hcap : a = none → cap = 0) (hlen : len ≤ 1048576) (h : Rd .u8 w a len z) :
    Calls Try.prog 22 #[.slice a len cap] w fun e w' => ∃ a', e = .returned (.slice a' len len) ∧ Own 5 .u8 w.heap.size w' a' len z ∧ w.grownBy w' none := by
  rcases h with ⟨rfl, rfl⟩ | ⟨x, rfl, hx⟩
  · obtain rfl := hcap rfl
    have hnil := fun wx => Lib.run_eql_slice_nil (P := Try.prog) wx 22 5 none 0 0 0 0 Try.underlying22
    go_enter Try.func22, Try.ntmps22
    go_wp2
    go_ret
    exact ⟨none, rfl, .inl ⟨rfl, rfl⟩, .refl _ _⟩
  · have hnil := fun wx => Lib.run_eql_slice_nil (P := Try.prog) wx 22 5 (some x) len cap 0 0 Try.underlying22
    clear hcap
    go_enter Try.func22, Try.ntmps22
    go_wp2_with (at_make; refine wpList_make_is rfl _ _ 22 rfl 5 (.int .u8 0) 1 Try.underlying22 Try.info5 rfl .i64 .i64 _ _ len rfl rfl rfl rfl (by omega) (by omega) ?_; intro w1 hr1 hg1 hs1)
    clear hnil hs1
    go_loopw [4] (fun i wr => ∃ k : Nat, k ≤ len ∧ i = .int .i64 k ∧ wr.rowIs w.heap.size 5 len (fun j => if j < k then .int .u8 (z j) else .int .u8 0) ∧ w.grownBy wr none) (fun i _ => len - (intOf i).toNat)
    case atStart => exact ⟨0, Nat.zero_le _, rfl, hr1.congr (fun i _ => by simp), hg1⟩
    case round =>
      obtain ⟨k, hk, rfl, hra, hgr⟩ := hrel
      clear hr1 hg1
      by_cases hlt : k < len
      · obtain ⟨b, off, rfl, hc⟩ := hx (by omega)
        have hca := hra.cell hlt
        have hfa := hra.frozen k
        have hcs := hgr.cell (hc k hlt) (by simp)
        simp only [Nat.lt_irrefl, if_false] at hca
        go_wp2
        go_roundw
        case rel =>
          refine ⟨k + 1, by omega, by go_num, (hra.set k _).congr (fun i hi => ?_), hgr.andThen (row' := some w.heap.size) ?_ (by simp)⟩
          · by_cases e : i = k
            · subst e; simp
            · simp only [if_neg e]
              by_cases e2 : i < k
              · rw [if_pos e2, if_pos (by omega)]
              · rw [if_neg e2, if_neg (by omega)]
          · exact ⟨rfl, rfl, rfl, by simp [World.setCell], fun i hi hne => Below.heap_setCell _ _ _ _ (fun e => hne (by rw [e]))⟩
        case measure => simp [intOf]; omega
      · go_wp2
        go_ret
        exact ⟨_, rfl, .inr ⟨_, rfl, Nat.le_refl _, hra.congr (fun i hi => by rw [if_pos (by omega)])⟩, hgr⟩

set_option maxHeartbeats 400000 in
theorem clone23 (a : Option Addr) (len cap : Nat) (z : Nat → Int) (w : World) (hcap : a = none → cap = 0) (hlen : len ≤ 1048576) (h : Rd .i64 w a len z) :
    Calls Try.prog 23 #[.slice a len cap] w fun e w' => ∃ a', e = .returned (.slice a' len len) ∧ Own 3 .i64 w.heap.size w' a' len z ∧ w.grownBy w' none := by
  rcases h with ⟨rfl, rfl⟩ | ⟨x, rfl, hx⟩
  · obtain rfl := hcap rfl
    have hnil := fun wx => Lib.run_eql_slice_nil (P := Try.prog) wx 23 3 none 0 0 0 0 Try.underlying23
    go_enter Try.func23, Try.ntmps23
    go_wp2
    go_ret
    exact ⟨none, rfl, .inl ⟨rfl, rfl⟩, .refl _ _⟩
  · have hnil := fun wx => Lib.run_eql_slice_nil (P := Try.prog) wx 23 3 (some x) len cap 0 0 Try.underlying23
    clear hcap
    go_enter Try.func23, Try.ntmps23
    go_wp2_with (at_make; refine wpList_make_is rfl _ _ 23 rfl 3 (.int .i64 0) 8 Try.underlying23 Try.info3 rfl .i64 .i64 _ _ len rfl rfl rfl rfl (by omega) (by omega) ?_; intro w1 hr1 hg1 hs1)
    clear hnil hs1
    go_loopw [4] (fun i wr => ∃ k : Nat, k ≤ len ∧ i = .int .i64 k ∧ wr.rowIs w.heap.size 3 len (fun j => if j < k then .int .i64 (z j) else .int .i64 0) ∧ w.grownBy wr none) (fun i _ => len - (intOf i).toNat)
    case atStart => exact ⟨0, Nat.zero_le _, rfl, hr1.congr (fun i _ => by simp), hg1⟩
    case round =>
      obtain ⟨k, hk, rfl, hra, hgr⟩ := hrel
      clear hr1 hg1
      by_cases hlt : k < len
      · obtain ⟨b, off, rfl, hc⟩ := hx (by omega)
        have hca := hra.cell hlt
        have hfa := hra.frozen k
        have hcs := hgr.cell (hc k hlt) (by simp)
        simp only [Nat.lt_irrefl, if_false] at hca
        go_wp2
        go_roundw
        case rel =>
          refine ⟨k + 1, by omega, by go_num, (hra.set k _).congr (fun i hi => ?_), hgr.andThen (row' := some w.heap.size) ?_ (by simp)⟩
          · by_cases e : i = k
            · subst e; simp
            · simp only [if_neg e]
              by_cases e2 : i < k
              · rw [if_pos e2, if_pos (by omega)]
              · rw [if_neg e2, if_neg (by omega)]
          · exact ⟨rfl, rfl, rfl, by simp [World.setCell], fun i hi hne => Below.heap_setCell _ _ _ _ (fun e => hne (by rw [e]))⟩
        case measure => simp [intOf]; omega
      · go_wp2
        go_ret
        exact ⟨_, rfl, .inr ⟨_, rfl, Nat.le_refl _, hra.congr (fun i hi => by rw [if_pos (by omega)])⟩, hgr⟩

end Go.Proofs.Qxb6602576a
