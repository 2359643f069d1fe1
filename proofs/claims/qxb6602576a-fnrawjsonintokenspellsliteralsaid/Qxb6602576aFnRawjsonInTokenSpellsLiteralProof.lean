/-
  The proof of 'Rows.FnRawjsonInTokenSpellsLiteralSaid'. The frame follows the kit's own (proof-skeleton.mjs, as laid for the other law of this seat); the struct that comes in by value is opened by open25 (Qxb6602576aOpen.lean); the walk is law4_in and law4_out (Qxb6602576aLawLit.lean).
-/
import Derived.Test.Qxb6602576aRows
import Derived.Test.Qxb6602576aOpen
import Derived.Test.Qxb6602576aLawLit
namespace Go.Proofs.Qxb6602576a.fnRawjsonInTokenSpellsLiteral
open Go.ChangeShapes Go.WideShapes Go.ChangeAt Go.RowKit
open Go.ChangeMaps (open_string shut_string)

theorem walk (oa : Option Addr) (ol oc : Nat) (nx : Int) (wd : ByteArray) (hx : Int) (nm : Bool) (ck at' : Int) (hn : Bool) (sa : Option Addr) (sl sc : Nat) (pa : Option Addr) (pl pc : Nat) (ls : Int) (zo zs zp : Nat → Int) (w : World)
    (m0 : ol ≤ maxLen) (m2 : wd.size ≤ maxLen) (m8 : sl ≤ maxLen) (m9 : pl ≤ maxLen)
    (r0 : Rd .u8 w oa ol zo) (r8 : Rd .i64 w sa sl zs) (r9 : Rd .i64 w pa pl zp) (n0 : oa = none → oc = 0) (n8 : sa = none → sc = 0) (n9 : pa = none → pc = 0) :
    Calls Try.prog 4 #[cfv oa ol oc nx wd hx nm ck at' hn sa sl sc pa pl pc ls] w fun e w' => e = .returned (.bool true) ∧ Below w.heap.size w w' := by
  by_cases h : ol + wd.size + 8 * sl + 8 * pl ≤ 1048576 ∧ 0 < wd.size
  · refine (law4_in oa ol oc nx wd hx nm ck at' hn sa sl sc pa pl pc ls zo zs zp w h.1 h.2 r0 r8 r9 n0 n8 n9).mono ?_
    rintro e w' ⟨he, hg⟩
    exact ⟨he, (Below.refl _ _).grown hg (Nat.le_refl _) (by simp)⟩
  · refine (law4_out oa ol oc nx wd hx nm ck at' hn sa sl sc pa pl pc ls w m0 m2 m8 m9 h).mono ?_
    rintro e w' ⟨he, hg⟩
    exact ⟨he, (Below.refl _ _).grown hg (Nat.le_refl _) (by simp)⟩

set_option maxRecDepth 100000 in
theorem lifted (os : Os) (started : os.Started) (H : Type) (enc : TypeId × Value → H) :
    ReturnsInHanded {} Try.checked os 4 .any (Rows.fnRawjsonInTokenSpellsLiteralSpec.pre6 enc Try.prog Try.f4 Rows.fnRawjsonInTokenSpellsLiteralRow.domain false) (Rows.fnRawjsonInTokenSpellsLiteralSpec.post enc Try.prog Try.f4 false true false false) := by
  refine returnsInHanded_of_change (C := Try.checked) own started (by kernel_rfl) Try.func4
    (ChangeSpec.witness6 (enc := enc) (C := Try.checked) false ⟨#[], #[.agg #[.slice none 0 0, .int .u8 0, .string ⟨#[]⟩, .int .i64 0, .bool false, .int .i64 0, .int .i64 0, .bool false, .slice none 0 0, .slice none 0 0, .int .i64 0]], []⟩ 8 (by kernel_rfl) (by kernel_rfl) (by kernel_rfl) (by kernel_rfl)) ?_
  intro W base args ds gs before hval0 hW hcnd _
  have hval : ∀ (j : Nat) t v, Try.f4.params[j]? = some t → args[j]? = some v → Value.okWide Try.prog W .any base t v := hval0
  have hW' := hW
  obtain ⟨p, q, hA0, hV, rfl, hfz, hnd⟩ := hW
  have hA : DataW.TrodAll enc Try.prog W 0 (fun _ => true) true Try.f4.params.toList args.toList ds p := hA0
  rw [Try.params4] at hA hval
  obtain ⟨v0, vs0, d0, ds0, p0, q0, hargs, rfl, rfl, h0, r0⟩ := trodAll_cons hA
  obtain ⟨rfl, rfl, rfl⟩ := trodAll_nil r0
  obtain rfl : args = #[v0] := by cases args; simp_all
  obtain ⟨rfl, rfl⟩ := trodVars_none hV
  have k0 := h0
  have lt0 : ∀ x ∈ p0, x.block < W.heap.size := by obtain ⟨m, hm⟩ := k0; exact DataW.trod_lt m _ _ _ hm
  obtain ⟨oa, ol, oc, nx, wd, hx, nm, ck, at', hn, sa, sl, sc, pa, pl, pc, ls, zo, zs, zp, rfl, m0, m2, m8, m9, s0, s8, s9, n0, n8, n9⟩ := open25 (hval 0 25 v0 rfl rfl) h0
  clear hA0 hval0
  refine (walk oa ol oc nx wd hx nm ck at' hn sa sl sc pa pl pc ls zo zs zp W m0 m2 m8 m9 s0 s8 s9 n0 n8 n9).mono fun e W' ⟨he, bel⟩ => ?_
  subst he
  exact ⟨_, rfl, _, _, _, [], _, [], hW', trodAll_mk1 (shut_bool Try.underlying4 _), (trodAll_cons_mk (Below.trod laidOut (by kernel_rfl) (of_decide_eq_true (by kernel_rfl)) k0 bel lt0) trodAll_mk0), rfl, bel.frame _, fun h => by cases h⟩

theorem over : Rows.fnRawjsonInTokenSpellsLiteralRow.holds Try.pinned (OpenSpec.ofChange Rows.fnRawjsonInTokenSpellsLiteralSpec) :=
  OpenClaim.holds_of_wide 4 Try.f4 rfl rfl rfl rfl rfl rfl rfl ⟨rfl, rfl, rfl, rfl, rfl⟩ rfl rfl rfl rfl rfl (by kernel_rfl) Try.func4 (by kernel_rfl)
    (of_decide_eq_true (by kernel_rfl)) (by unfold Func.isWrapper; first | (rw [if_pos (by decide +kernel)]; kernel_rfl) | (rw [if_neg (by decide +kernel)]; exact ⟨rfl, rfl⟩))
    (fun os started H enc _ => lifted os started H enc)

/-- THE STATEMENT -/
theorem proved : Rows.FnRawjsonInTokenSpellsLiteralSaid := over
end Go.Proofs.Qxb6602576a.fnRawjsonInTokenSpellsLiteral
