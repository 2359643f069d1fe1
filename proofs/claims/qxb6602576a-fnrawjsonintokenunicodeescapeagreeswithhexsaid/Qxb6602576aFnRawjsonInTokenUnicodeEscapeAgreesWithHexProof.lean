/-
  The proof of 'Rows.FnRawjsonInTokenUnicodeEscapeAgreesWithHexSaid'. The frame follows the kit's own (proof-skeleton.mjs, as laid for the other law of this seat); the struct that comes in by value is opened by open25 (Qxb6602576aOpen.lean); the walk is law5_in and law5_out (Qxb6602576aLawUni.lean).
-/
import Derived.Test.Qxb6602576aRows
import Derived.Test.Qxb6602576aOpen
import Derived.Test.Qxb6602576aLawUni
namespace Go.Proofs.Qxb6602576a.fnRawjsonInTokenUnicodeEscapeAgreesWithHex
open Go.ChangeShapes Go.WideShapes Go.ChangeAt Go.RowKit
open Go.ChangeMaps (open_string shut_string)

theorem walk (oa : Option Addr) (ol oc : Nat) (nx : Int) (wd : ByteArray) (hx : Int) (nm : Bool) (ck at' : Int) (hn : Bool) (sa : Option Addr) (sl sc : Nat) (pa : Option Addr) (pl pc : Nat) (ls : Int) (d0 d1 d2 d3 : Int) (q0 : 0 ≤ d0 ∧ d0 ≤ 255) (q1 : 0 ≤ d1 ∧ d1 ≤ 255) (q2 : 0 ≤ d2 ∧ d2 ≤ 255) (q3 : 0 ≤ d3 ∧ d3 ≤ 255) (zo zs zp : Nat → Int) (w : World)
    (m0 : ol ≤ maxLen) (m2 : wd.size ≤ maxLen) (m8 : sl ≤ maxLen) (m9 : pl ≤ maxLen)
    (r0 : Rd .u8 w oa ol zo) (r8 : Rd .i64 w sa sl zs) (r9 : Rd .i64 w pa pl zp) (n0 : oa = none → oc = 0) (n8 : sa = none → sc = 0) (n9 : pa = none → pc = 0) :
    Calls Try.prog 5 #[cfv oa ol oc nx wd hx nm ck at' hn sa sl sc pa pl pc ls, .int .u8 d0, .int .u8 d1, .int .u8 d2, .int .u8 d3] w fun e w' => e = .returned (.bool true) ∧ Below w.heap.size w w' := by
  by_cases h : ol + wd.size + 8 * sl + 8 * pl ≤ 1048576
  · refine (law5_in oa ol oc nx wd hx nm ck at' hn sa sl sc pa pl pc ls d0 d1 d2 d3 q0 q1 q2 q3 zo zs zp w h r0 r8 r9 n0 n8 n9).mono ?_
    rintro e w' ⟨he, hg⟩
    exact ⟨he, (Below.refl _ _).grown hg (Nat.le_refl _) (by simp)⟩
  · refine (law5_out oa ol oc nx wd hx nm ck at' hn sa sl sc pa pl pc ls d0 d1 d2 d3 w m0 m2 m8 m9 h).mono ?_
    rintro e w' ⟨he, hg⟩
    exact ⟨he, (Below.refl _ _).grown hg (Nat.le_refl _) (by simp)⟩

set_option maxRecDepth 100000 in
theorem lifted (os : Os) (started : os.Started) (H : Type) (enc : TypeId × Value → H) :
    ReturnsInHanded {} Try.checked os 5 .any (Rows.fnRawjsonInTokenUnicodeEscapeAgreesWithHexSpec.pre6 enc Try.prog Try.f5 Rows.fnRawjsonInTokenUnicodeEscapeAgreesWithHexRow.domain false) (Rows.fnRawjsonInTokenUnicodeEscapeAgreesWithHexSpec.post enc Try.prog Try.f5 false true false false) := by
  refine returnsInHanded_of_change (C := Try.checked) own started (by kernel_rfl) Try.func5
    (ChangeSpec.witness6 (enc := enc) (C := Try.checked) false ⟨#[], #[.agg #[.slice none 0 0, .int .u8 0, .string ⟨#[]⟩, .int .i64 0, .bool false, .int .i64 0, .int .i64 0, .bool false, .slice none 0 0, .slice none 0 0, .int .i64 0], .int .u8 0, .int .u8 0, .int .u8 0, .int .u8 0], []⟩ 8 (by kernel_rfl) (by kernel_rfl) (by kernel_rfl) (by kernel_rfl)) ?_
  intro W base args ds gs before hval0 hW hcnd _
  have hval : ∀ (j : Nat) t v, Try.f5.params[j]? = some t → args[j]? = some v → Value.okWide Try.prog W .any base t v := hval0
  have hW' := hW
  obtain ⟨p, q, hA0, hV, rfl, hfz, hnd⟩ := hW
  have hA : DataW.TrodAll enc Try.prog W 0 (fun _ => true) true Try.f5.params.toList args.toList ds p := hA0
  rw [Try.params5] at hA hval
  obtain ⟨v0, vs0, d0, ds0, p0, q0, hargs, rfl, rfl, h0, r0⟩ := trodAll_cons hA
  obtain ⟨v1, vs1, e1, ds1, p1, q1, rfl, rfl, rfl, h1, r1⟩ := trodAll_cons r0
  obtain ⟨v2, vs2, e2, ds2, p2, q2, rfl, rfl, rfl, h2, r2⟩ := trodAll_cons r1
  obtain ⟨v3, vs3, e3, ds3, p3, q3, rfl, rfl, rfl, h3, r3⟩ := trodAll_cons r2
  obtain ⟨v4, vs4, e4, ds4, p4, q4, rfl, rfl, rfl, h4, r4⟩ := trodAll_cons r3
  obtain ⟨rfl, rfl, rfl⟩ := trodAll_nil r4
  obtain rfl : args = #[v0, v1, v2, v3, v4] := by cases args; simp_all
  obtain ⟨rfl, rfl⟩ := trodVars_none hV
  have k0 := h0
  have lt0 : ∀ x ∈ p0, x.block < W.heap.size := by obtain ⟨m, hm⟩ := k0; exact DataW.trod_lt m _ _ _ hm
  obtain ⟨oa, ol, oc, nx, wd, hx, nm, ck, at', hn, sa, sl, sc, pa, pl, pc, ls, zo, zs, zp, rfl, m0, m2, m8, m9, s0, s8, s9, n0, n8, n9⟩ := open25 (hval 0 25 v0 rfl rfl) h0
  obtain ⟨d0, rfl, rfl, rfl, w1⟩ := open_int Try.underlying5 (hval 1 5 v1 rfl rfl) h1
  obtain ⟨d1, rfl, rfl, rfl, w2⟩ := open_int Try.underlying5 (hval 2 5 v2 rfl rfl) h2
  obtain ⟨d2, rfl, rfl, rfl, w3⟩ := open_int Try.underlying5 (hval 3 5 v3 rfl rfl) h3
  obtain ⟨d3, rfl, rfl, rfl, w4⟩ := open_int Try.underlying5 (hval 4 5 v4 rfl rfl) h4
  clear hA0 hval0
  refine (walk oa ol oc nx wd hx nm ck at' hn sa sl sc pa pl pc ls d0 d1 d2 d3 (bounds_u8 w1) (bounds_u8 w2) (bounds_u8 w3) (bounds_u8 w4) zo zs zp W m0 m2 m8 m9 s0 s8 s9 n0 n8 n9).mono fun e W' ⟨he, bel⟩ => ?_
  subst he
  exact ⟨_, rfl, _, _, _, [], _, [], hW', trodAll_mk1 (shut_bool Try.underlying4 _), (trodAll_cons_mk (Below.trod laidOut (by kernel_rfl) (of_decide_eq_true (by kernel_rfl)) k0 bel lt0) (trodAll_cons_mk (shut_int Try.underlying5 w1) (trodAll_cons_mk (shut_int Try.underlying5 w2) (trodAll_cons_mk (shut_int Try.underlying5 w3) (trodAll_cons_mk (shut_int Try.underlying5 w4) trodAll_mk0))))), rfl, bel.frame _, fun h => by cases h⟩

theorem over : Rows.fnRawjsonInTokenUnicodeEscapeAgreesWithHexRow.holds Try.pinned (OpenSpec.ofChange Rows.fnRawjsonInTokenUnicodeEscapeAgreesWithHexSpec) :=
  OpenClaim.holds_of_wide 5 Try.f5 rfl rfl rfl rfl rfl rfl rfl ⟨rfl, rfl, rfl, rfl, rfl⟩ rfl rfl rfl rfl rfl (by kernel_rfl) Try.func5 (by kernel_rfl)
    (of_decide_eq_true (by kernel_rfl)) (by unfold Func.isWrapper; first | (rw [if_pos (by decide +kernel)]; kernel_rfl) | (rw [if_neg (by decide +kernel)]; exact ⟨rfl, rfl⟩))
    (fun os started H enc _ => lifted os started H enc)

/-- THE STATEMENT -/
theorem proved : Rows.FnRawjsonInTokenUnicodeEscapeAgreesWithHexSaid := over
end Go.Proofs.Qxb6602576a.fnRawjsonInTokenUnicodeEscapeAgreesWithHex
