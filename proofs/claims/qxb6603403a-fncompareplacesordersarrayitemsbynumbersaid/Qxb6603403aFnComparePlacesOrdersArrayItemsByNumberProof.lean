/-
  The proof of 'Rows.FnComparePlacesOrdersArrayItemsByNumberSaid'. The frame follows the kit's own (proof-skeleton.mjs); a slice of strings that came in is opened by open_rds (Qxb6603403aOpen.lean); the walk is law5 (Qxb6603403aLawOrd.lean).
-/
import Derived.Test.Qxb6603403aRows
import Derived.Test.Qxb6603403aOpen
import Derived.Test.Qxb6603403aLawOrd
namespace Go.Proofs.Qxb6603403a.fnComparePlacesOrdersArrayItemsByNumber
open Go.ChangeShapes Go.WideShapes Go.ChangeAt Go.RowKit

set_option maxRecDepth 100000 in
theorem lifted (os : Os) (started : os.Started) (H : Type) (enc : TypeId × Value → H) :
    ReturnsInHanded {} Try.checked os 5 .any (Rows.fnComparePlacesOrdersArrayItemsByNumberSpec.pre6 enc Try.prog Try.f5 Rows.fnComparePlacesOrdersArrayItemsByNumberRow.domain false) (Rows.fnComparePlacesOrdersArrayItemsByNumberSpec.post enc Try.prog Try.f5 false true false false) := by
  refine returnsInHanded_of_change (C := Try.checked) own started (by kernel_rfl) Try.func5
    (ChangeSpec.witness6 (enc := enc) (C := Try.checked) false ⟨#[], #[.slice none 0 0, .int .u64 0, .int .u64 0, .slice none 0 0, .slice none 0 0], []⟩ 8 (by kernel_rfl) (by kernel_rfl) (by kernel_rfl) (by kernel_rfl)) ?_
  intro W base args ds gs before hval0 hW hcnd _
  have hval : ∀ (j : Nat) t v, Try.f5.params[j]? = some t → args[j]? = some v → Value.okWide Try.prog W .any base t v := hval0
  have hW' := hW
  obtain ⟨p, q, hA0, hV, rfl, hfz, hnd⟩ := hW
  have hA : DataW.TrodAll enc Try.prog W 0 (fun _ => true) true Try.f5.params.toList args.toList ds p := hA0
  rw [Try.params5] at hA hval
  obtain ⟨v0, vs0, d0, ds0, p0, q0, hargs, rfl, rfl, h0, r0⟩ := trodAll_cons hA
  obtain ⟨v1, vs1, d1, ds1, p1, q1, rfl, rfl, rfl, h1, r1⟩ := trodAll_cons r0
  obtain ⟨v2, vs2, d2, ds2, p2, q2, rfl, rfl, rfl, h2, r2⟩ := trodAll_cons r1
  obtain ⟨v3, vs3, d3, ds3, p3, q3, rfl, rfl, rfl, h3, r3⟩ := trodAll_cons r2
  obtain ⟨v4, vs4, d4, ds4, p4, q4, rfl, rfl, rfl, h4, r4⟩ := trodAll_cons r3
  obtain ⟨rfl, rfl, rfl⟩ := trodAll_nil r4
  obtain rfl : args = #[v0, v1, v2, v3, v4] := by cases args; simp_all
  obtain ⟨rfl, rfl⟩ := trodVars_none hV
  obtain ⟨a0, len0, cap0, rfl⟩ := okWide_slice Try.underlying22 (hval 0 22 v0 rfl rfl)
  have k0 := h0
  have lt0 : ∀ x ∈ p0, x.block < W.heap.size := by obtain ⟨m, hm⟩ := k0; exact DataW.trod_lt m _ _ _ hm
  obtain ⟨f0, hf0⟩ := h0
  obtain ⟨a, ca, A, hcs, mla, msa, ra, na⟩ := open_rds Try.underlying22 Try.underlying9 Try.cells9 hf0
  simp [Value.cells] at hcs
  obtain ⟨rfl, rfl, rfl⟩ := hcs
  obtain ⟨n, rfl, rfl, rfl, wn⟩ := open_int Try.underlying31 (hval 1 31 v1 rfl rfl) h1
  obtain ⟨m, rfl, rfl, rfl, wm⟩ := open_int Try.underlying31 (hval 2 31 v2 rfl rfl) h2
  obtain ⟨a3, len3, cap3, rfl⟩ := okWide_slice Try.underlying22 (hval 3 22 v3 rfl rfl)
  have k3 := h3
  have lt3 : ∀ x ∈ p3, x.block < W.heap.size := by obtain ⟨m, hm⟩ := k3; exact DataW.trod_lt m _ _ _ hm
  obtain ⟨f3, hf3⟩ := h3
  obtain ⟨b, cb, B, hcs, mlb, msb, rb, nb⟩ := open_rds Try.underlying22 Try.underlying9 Try.cells9 hf3
  simp [Value.cells] at hcs
  obtain ⟨rfl, rfl, rfl⟩ := hcs
  obtain ⟨a4, len4, cap4, rfl⟩ := okWide_slice Try.underlying22 (hval 4 22 v4 rfl rfl)
  have k4 := h4
  have lt4 : ∀ x ∈ p4, x.block < W.heap.size := by obtain ⟨m, hm⟩ := k4; exact DataW.trod_lt m _ _ _ hm
  obtain ⟨f4, hf4⟩ := h4
  obtain ⟨c, cc, C, hcs, mlc, msc, rc, nc⟩ := open_rds Try.underlying22 Try.underlying9 Try.cells9 hf4
  simp [Value.cells] at hcs
  obtain ⟨rfl, rfl, rfl⟩ := hcs
  clear hA0 hval0
  obtain ⟨n0, n1⟩ := bounds_u64 wn
  obtain ⟨m0, m1⟩ := bounds_u64 wm
  obtain ⟨n, rfl⟩ := Int.eq_ofNat_of_zero_le n0
  obtain ⟨m, rfl⟩ := Int.eq_ofNat_of_zero_le m0
  refine (law5 a0 a3 a4 cap0 cap3 cap4 A B C n m W (by omega) (by omega) mla mlb mlc ra rb rc msa msb msc na nb nc).mono fun e W' ⟨he, hg⟩ => ?_
  have bel : Below W.heap.size W W' := (Below.refl _ _).grown hg (Nat.le_refl _) (by simp)
  subst he
  exact ⟨_, rfl, _, _, _, [], _, [], hW', trodAll_mk1 (shut_bool Try.underlying4 _), (trodAll_cons_mk (Below.trod laidOut (by kernel_rfl) (of_decide_eq_true (by kernel_rfl)) k0 bel lt0) (trodAll_cons_mk (shut_int Try.underlying31 wn) (trodAll_cons_mk (shut_int Try.underlying31 wm) (trodAll_cons_mk (Below.trod laidOut (by kernel_rfl) (of_decide_eq_true (by kernel_rfl)) k3 bel lt3) (trodAll_cons_mk (Below.trod laidOut (by kernel_rfl) (of_decide_eq_true (by kernel_rfl)) k4 bel lt4) trodAll_mk0))))), rfl, bel.frame _, fun h => by cases h⟩

theorem over : Rows.fnComparePlacesOrdersArrayItemsByNumberRow.holds Try.pinned (OpenSpec.ofChange Rows.fnComparePlacesOrdersArrayItemsByNumberSpec) :=
  OpenClaim.holds_of_wide 5 Try.f5 rfl rfl rfl rfl rfl rfl rfl ⟨rfl, rfl, rfl, rfl, rfl⟩ rfl rfl rfl rfl rfl (by kernel_rfl) Try.func5 (by kernel_rfl)
    (of_decide_eq_true (by kernel_rfl)) (by unfold Func.isWrapper; first | (rw [if_pos (by decide +kernel)]; kernel_rfl) | (rw [if_neg (by decide +kernel)]; exact ⟨rfl, rfl⟩))
    (fun os started H enc _ => lifted os started H enc)

/-- THE STATEMENT -/
theorem proved : Rows.FnComparePlacesOrdersArrayItemsByNumberSaid := over
end Go.Proofs.Qxb6603403a.fnComparePlacesOrdersArrayItemsByNumber
