import Derived.Test.Qxb6602576aRows
import Derived.Test.Qxb6602576aFields
import Derived.ProofKit
import Derived.OpenShut
import Derived.ShutString
import Derived.ChangeOld
import Derived.Below
namespace Go.Proofs.Qxb6602576a
open Go.ChangeShapes Go.WideShapes Go.ChangeAt Go.RowKit
open Go.ChangeMaps (open_string shut_string)

theorem own : ownKnob Try.prog.godebug = none := by kernel_rfl
theorem laidOut : laidOutB Try.prog = true := by kernel_rfl
theorem Try.cells25 : Try.prog.cellsOf 25 = 11 := by kernel_rfl
theorem Try.cells22 : Try.prog.cellsOf 22 = 1 := by kernel_rfl
theorem Try.cells23 : Try.prog.cellsOf 23 = 1 := by kernel_rfl
theorem Try.cells9 : Try.prog.cellsOf 9 = 1 := by kernel_rfl
theorem Try.cells5 : Try.prog.cellsOf 5 = 1 := by kernel_rfl
theorem Try.cells4 : Try.prog.cellsOf 4 = 1 := by kernel_rfl
theorem Try.cells3 : Try.prog.cellsOf 3 = 1 := by kernel_rfl

section
variable {H : Type} {enc : TypeId × Value → H} {P : Program} {w : World} {base : Nat} {spare : Nat → Bool} {held : Bool}

/-- A slice of integers that came in, as the walks read it. -/
theorem open_rd {t e : TypeId} {k : IntKind} {fuel : Nat} {cs : List Value} {x : DataW H × List MemPlace} (ht : P.underlying t = some (.slice e)) (he : P.underlying e = some (.int k)) (hc : P.cellsOf e = 1)
    (h : DataW.trod enc P w base spare held fuel t cs = some x) :
    ∃ (a : Option Addr) (len cap : Nat) (z : Nat → Int), cs = [.slice a len cap] ∧ len ≤ maxLen ∧ Rd k w a len z ∧ (a = none → cap = 0) := by
  rcases open_ints ht he hc h with ⟨hcs, _⟩ | ⟨x, l, c, zs, hcs, _, hl, hm, hz, _, hcell, _⟩
  · exact ⟨none, 0, 0, fun _ => 0, hcs, Nat.zero_le _, .inl ⟨rfl, rfl⟩, fun _ => rfl⟩
  · refine ⟨some x, l, c, fun j => zs.getD j 0, hcs, Nat.le_trans hl hm, .inr ⟨x, rfl, fun h0 => ?_⟩, fun h => by cases h⟩
    have hlz : l ≤ zs.length := by rw [hz]; split <;> omega
    obtain ⟨b, off, spot⟩ := x
    have hs : spot = none := by simpa [Addr.add] using World.cell?_spot (hcell 0 (by omega))
    subst hs
    exact ⟨b, off, rfl, fun j hj => by rw [← addp]; exact hcell j (by omega)⟩
end

theorem array11 {α : Type} {cs : Array α} (h : cs.size = 11) : ∃ c0 c1 c2 c3 c4 c5 c6 c7 c8 c9 c10, cs = #[c0, c1, c2, c3, c4, c5, c6, c7, c8, c9, c10] := by
  obtain ⟨l⟩ := cs
  match l, h with
  | [c0, c1, c2, c3, c4, c5, c6, c7, c8, c9, c10], _ => exact ⟨c0, c1, c2, c3, c4, c5, c6, c7, c8, c9, c10, rfl⟩

/-- The checker's fields that came in, by value. -/
theorem open25 {H : Type} {enc : TypeId × Value → H} {w : World} {base b0 : Nat} {r : Reach} {spare : Nat → Bool} {held : Bool} {v : Value} {d : DataW H} {p : List MemPlace}
    (hv : Value.okWide Try.prog w r b0 25 v) (h : DataW.Trod enc Try.prog w base spare held 25 v d p) :
    ∃ (oa : Option Addr) (ol oc : Nat) (nx : Int) (wd : ByteArray) (hx : Int) (nm : Bool) (ck at' : Int) (hn : Bool) (sa : Option Addr) (sl sc : Nat) (pa : Option Addr) (pl pc : Nat) (ls : Int) (zo zs zp : Nat → Int),
      v = cfv oa ol oc nx wd hx nm ck at' hn sa sl sc pa pl pc ls ∧ ol ≤ maxLen ∧ wd.size ≤ maxLen ∧ sl ≤ maxLen ∧ pl ≤ maxLen ∧
      Rd .u8 w oa ol zo ∧ Rd .i64 w sa sl zs ∧ Rd .i64 w pa pl zp ∧ (oa = none → oc = 0) ∧ (sa = none → sc = 0) ∧ (pa = none → pc = 0) := by
  obtain ⟨cs, rfl, hsz⟩ := okWide_struct Try.underlying25 hv
  obtain ⟨c0, c1, c2, c3, c4, c5, c6, c7, c8, c9, c10, rfl⟩ := array11 (hsz.trans Try.cells25)
  obtain ⟨fuel, hf⟩ := h
  obtain ⟨xs, n, _, _, _, hlen, hfs⟩ := DataW.trod_struct Try.underlying25 hf
  have hxs : xs.length = 11 := hlen
  have get : ∀ i, i < 11 → ∃ y, xs[i]? = some y := fun i hi => ⟨xs[i], List.getElem?_eq_getElem (by omega)⟩
  obtain ⟨y0, e0⟩ := get 0 (by omega)
  obtain ⟨y2, e2⟩ := get 2 (by omega)
  obtain ⟨y1, e1⟩ := get 1 (by omega)
  obtain ⟨y3, e3⟩ := get 3 (by omega)
  obtain ⟨y4, e4⟩ := get 4 (by omega)
  obtain ⟨y5, e5⟩ := get 5 (by omega)
  obtain ⟨y6, e6⟩ := get 6 (by omega)
  obtain ⟨y7, e7⟩ := get 7 (by omega)
  obtain ⟨y8, e8⟩ := get 8 (by omega)
  obtain ⟨y9, e9⟩ := get 9 (by omega)
  obtain ⟨y10, e10⟩ := get 10 (by omega)
  have t0 : DataW.trod enc Try.prog w base spare held n 22 [c0] = some y0 := by simpa [Value.cells, Try.cells22] using (hfs 0 _ rfl).trans e0
  have t1 : DataW.trod enc Try.prog w base spare held n 5 [c1] = some y1 := by simpa [Value.cells, Try.cells5] using (hfs 1 _ rfl).trans e1
  have t2 : DataW.trod enc Try.prog w base spare held n 9 [c2] = some y2 := by simpa [Value.cells, Try.cells9] using (hfs 2 _ rfl).trans e2
  have t3 : DataW.trod enc Try.prog w base spare held n 3 [c3] = some y3 := by simpa [Value.cells, Try.cells3] using (hfs 3 _ rfl).trans e3
  have t4 : DataW.trod enc Try.prog w base spare held n 4 [c4] = some y4 := by simpa [Value.cells, Try.cells4] using (hfs 4 _ rfl).trans e4
  have t5 : DataW.trod enc Try.prog w base spare held n 3 [c5] = some y5 := by simpa [Value.cells, Try.cells3] using (hfs 5 _ rfl).trans e5
  have t6 : DataW.trod enc Try.prog w base spare held n 3 [c6] = some y6 := by simpa [Value.cells, Try.cells3] using (hfs 6 _ rfl).trans e6
  have t7 : DataW.trod enc Try.prog w base spare held n 4 [c7] = some y7 := by simpa [Value.cells, Try.cells4] using (hfs 7 _ rfl).trans e7
  have t8 : DataW.trod enc Try.prog w base spare held n 23 [c8] = some y8 := by simpa [Value.cells, Try.cells23] using (hfs 8 _ rfl).trans e8
  have t9 : DataW.trod enc Try.prog w base spare held n 23 [c9] = some y9 := by simpa [Value.cells, Try.cells23] using (hfs 9 _ rfl).trans e9
  have t10 : DataW.trod enc Try.prog w base spare held n 3 [c10] = some y10 := by simpa [Value.cells, Try.cells3] using (hfs 10 _ rfl).trans e10
  clear hfs get
  obtain ⟨oa, ol, oc, zo, q0, m0, r0, n0⟩ := open_rd Try.underlying22 Try.underlying5 Try.cells5 t0
  obtain ⟨nx, q1, _, _⟩ := DataW.trod_int Try.underlying5 t1
  obtain ⟨wd, q2, _, m2⟩ := DataW.trod_string Try.underlying9 t2
  obtain ⟨hx, q3, _, _⟩ := DataW.trod_int Try.underlying3 t3
  obtain ⟨nm, q4, _⟩ := DataW.trod_bool Try.underlying4 t4
  obtain ⟨ck, q5, _, _⟩ := DataW.trod_int Try.underlying3 t5
  obtain ⟨at', q6, _, _⟩ := DataW.trod_int Try.underlying3 t6
  obtain ⟨hn, q7, _⟩ := DataW.trod_bool Try.underlying4 t7
  obtain ⟨sa, sl, sc, zs, q8, m8, r8, n8⟩ := open_rd Try.underlying23 Try.underlying3 Try.cells3 t8
  obtain ⟨pa, pl, pc, zp, q9, m9, r9, n9⟩ := open_rd Try.underlying23 Try.underlying3 Try.cells3 t9
  obtain ⟨ls, q10, _, _⟩ := DataW.trod_int Try.underlying3 t10
  simp only [List.cons.injEq, and_true] at q0 q1 q2 q3 q4 q5 q6 q7 q8 q9 q10
  subst q0 q1 q2 q3 q4 q5 q6 q7 q8 q9 q10
  exact ⟨oa, ol, oc, nx, wd, hx, nm, ck, at', hn, sa, sl, sc, pa, pl, pc, ls, zo, zs, zp, rfl, m0, m2, m8, m9, r0, r8, r9, n0, n8, n9⟩
end Go.Proofs.Qxb6602576a
