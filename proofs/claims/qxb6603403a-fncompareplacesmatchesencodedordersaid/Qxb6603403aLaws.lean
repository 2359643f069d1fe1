import Derived.WalkKit
import Derived.WalkSpells
import Derived.WalkLawsBesides
import Derived.Below
import Derived.Deep.OwnRows
import Derived.Laws.CopyOwn
import Derived.Maps.Range
import Derived.Lib.SliceRun
namespace Go.Proofs.Qxb6603403a
open Go.RowKit

theorem ret_int {k : IntKind} {a b : Int} (h : a = b) : Ending.returned (.int k a) = .returned (.int k b) := by rw [h]
theorem ret_bool {a b : Bool} (h : a = b) : Ending.returned (.bool a) = .returned (.bool b) := by rw [h]

theorem addp (b o i : Nat) : (⟨b, o, none⟩ : Addr).add i = ⟨b, o + i, none⟩ := by unfold Addr.add; split <;> simp_all

/-- A row of the call's own behind a step that wrote another row, or none. -/
theorem rowIs_grown {w w' : World} {row : Option Nat} {b : Nat} {t : TypeId} {n : Nat} {f : Nat → Value} (h : w.rowIs b t n f) (hg : w.grownBy w' row) (hne : some b ≠ row) : w'.rowIs b t n f :=
  h.of_block (hg.block b h.lt hne)
theorem rowIs_below {B : Nat} {w w' : World} {b : Nat} {t : TypeId} {n : Nat} {f : Nat → Value} (h : w.rowIs b t n f) (hb : Below B w w') (hlt : b < B) : w'.rowIs b t n f :=
  h.of_block (hb.block b hlt)

theorem hide {p : Prop} (h : p) : Hid p := h
theorem unhide {p : Prop} (h : Hid p) : p := h
theorem grown_drew {w w' : World} {row : Option Nat} (h : w.grownBy w' row) : w.grownBy w'.drew row := ⟨h.os, h.tape, h.output, h.size, h.block⟩
theorem grown_drewN {w w' : World} {row : Option Nat} (h : w.grownBy w' row) (n : Nat) : w.grownBy (w'.drewN n) row := ⟨h.os, h.tape, h.output, h.size, h.block⟩
theorem grown_set (w : World) (B i : Nat) (v : Value) : w.grownBy (w.setCell ⟨B, i, none⟩ v) (some B) :=
  ⟨rfl, rfl, rfl, by simp [World.setCell], fun _ _ hne => Below.heap_setCell _ _ _ _ (fun e => hne (by rw [e]))⟩

/-- 'make([]T, n)', T of one cell: the world behind it is a letter, of which the new row is known. -/
theorem wpList_make_is {P : Program} {w : World} {ops : Array Oper} {rest : List Oper} {o : Oper} {a : Act} {Q : Exit → Act → World → Prop}
    (hg : o.guard = none) (l c : Operand) (t : TypeId) (hop : o.op = Op.makeSlice t l c)
    (e : TypeId) (z : Value) (bytes : Nat) (ht : P.underlying t = some (.slice e)) (hinfo : (P.info? e).map (fun i => (i.zero, i.size, i.bytes)) = some (some z, 1, bytes)) (hz1 : z.cells = #[z])
    (kl kc : IntKind) (L C : Int) (n : Nat) (hl : a.eval l = .int kl L) (hc : a.eval c = .int kc C) (hL : L = (n : Int)) (hC : C = (n : Int)) (hbytes : bytes * n ≤ 281474976710656) (h63 : n ≤ 9223372036854775807)
    (hK : ∀ w', w'.rowIs w.heap.size e n (fun _ => z) → w.grownBy w' none → w'.heap.size = w.heap.size + 1 → wpList P ops Q rest (a.put o.dst (.slice (some ⟨w.heap.size, 0, none⟩) n n)) w') :
    wpList P ops Q (o :: rest) a w := by
  refine wpList_plain hg fun K hK' => ?_
  have hrun := run_make_row' (P := P) t e z bytes ht hinfo hz1 kl kc n hbytes h63 w
  subst hL; subst hC
  unfold Oper.wp
  simp [execOp, hop, hl, hc, hrun, Result.andThen]
  exact hK' _ _ (hK _ (World.rowIs_made w z n e) (World.grownBy_alloc w _ none) (by simp))

/-- 'copy(dst, src)', dst the head of a row of the call's own, both of n elements. -/
theorem wpList_copy_is {P : Program} {w : World} {ops : Array Oper} {rest : List Oper} {o : Oper} {a : Act} {Q : Exit → Act → World → Prop} (hgd : o.guard = none) (d s : Operand) (dT sT : TypeId)
    (ho : o.op = .call { callee := .builtin .copy, args := #[d, s], argTypes := #[dT, sT] }) (elem : TypeId) (hu : P.underlying dT = some (.slice elem)) (hsz : (P.info? elem).map (·.size) = some 1)
    (g n dCap : Nat) (ad : Addr) (sCap : Nat) (hd : a.eval d = .slice (some ⟨g, 0, none⟩) n dCap) (hs : a.eval s = .slice (some ad) n sCap)
    (t : TypeId) (f v : Nat → Value) (hrow : w.rowIs g t n f)
    (hsrc : ∀ j, j < n → w.cell? (ad.add j) = some (v j)) (h1 : ∀ j, j < n → (v j).oneCell' = true)
    (hK : ∀ w', w'.rowIs g t n v → w.grownBy w' (some g) → w'.heap.size = w.heap.size → wpList P ops Q rest (a.put o.dst (goInt n)) w') : wpList P ops Q (o :: rest) a w := by
  obtain ⟨cur, hg, hcs, hcur⟩ := hrow
  have hlen : ((List.range n).map v).length = n := by simp
  refine wpList_copy_own hgd d s dT sT ho elem hu hsz g 0 n dCap ad n sCap hd hs cur t hg ((List.range n).map v) (by simp) ?_ (by simp [hcs]) ?_ ?_
  · intro j u hj
    rw [List.getElem?_map] at hj
    by_cases hjn : j < n
    · rw [List.getElem?_range hjn] at hj
      simp at hj; subst hj; exact hsrc j hjn
    · rw [List.getElem?_eq_none (by simp; omega)] at hj
      simp at hj
  · intro u hu
    obtain ⟨j, hj, rfl⟩ := List.mem_map.1 hu
    exact h1 j (by simpa using hj)
  · rw [hlen]
    refine hK _ ?_ ?_ (by simp)
    · refine ⟨_, setRow_heap w g cur _ t _ hg, ?_, ?_⟩
      · simp [hcs]
      · intro i hi
        simp [List.getElem?_append, hi]
    · exact ⟨rfl, rfl, rfl, by simp, fun k _ hne => setRow_other w g k _ (fun e => hne (by rw [e]))⟩

end Go.Proofs.Qxb6603403a
