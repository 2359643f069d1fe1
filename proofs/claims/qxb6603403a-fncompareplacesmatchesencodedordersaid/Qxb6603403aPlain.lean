import Derived.Test.Qxb6603403aCmp
namespace Go.Proofs.Qxb6603403a

def sgn (x : Int) : Int := if x < 0 then -1 else if 0 < x then 1 else 0

theorem sgn_neg (x : Int) : sgn (-x) = - sgn x := by unfold sgn; repeat' split
                                                     all_goals omega
theorem sgn_zero {x : Int} : sgn x = 0 ↔ x = 0 := by unfold sgn; repeat' split
                                                     all_goals omega

theorem cb_self : ∀ x : List UInt8, Lib.compareBytes x x = 0
  | [] => rfl
  | a :: xs => by simp [Lib.compareBytes, cb_self xs]

theorem cb_anti : ∀ x y : List UInt8, Lib.compareBytes y x = - Lib.compareBytes x y
  | [], [] => rfl
  | [], _ :: _ => rfl
  | _ :: _, [] => rfl
  | a :: xs, b :: ys => by
    simp only [Lib.compareBytes]
    have ih := cb_anti xs ys
    by_cases h1 : a < b
    · have h2 : ¬ b < a := by rw [UInt8.lt_iff_toNat_lt] at *; omega
      rw [if_neg h2, if_pos h1, if_pos h1]; rfl
    · by_cases h2 : b < a
      · rw [if_pos h2, if_neg h1, if_pos h2]
      · rw [if_neg h2, if_neg h1, if_neg h1, if_neg h2, ih]

theorem cb_zero : ∀ x y : List UInt8, Lib.compareBytes x y = 0 → x = y
  | [], [] => fun _ => rfl
  | [], _ :: _ => fun h => by simp [Lib.compareBytes] at h
  | _ :: _, [] => fun h => by simp [Lib.compareBytes] at h
  | a :: xs, b :: ys => fun h => by
    simp only [Lib.compareBytes] at h
    by_cases h1 : a < b
    · rw [if_pos h1] at h; simp at h
    · by_cases h2 : b < a
      · rw [if_neg h1, if_pos h2] at h; simp at h
      · rw [if_neg h1, if_neg h2] at h
        have e : a = b := by
          rw [UInt8.lt_iff_toNat_lt] at h1 h2
          exact UInt8.toNat_inj.1 (by omega)
        rw [e, cb_zero xs ys h]

theorem cmpPl_self : ∀ A : List (List UInt8), cmpPl A A = 0
  | [] => rfl
  | x :: A => by simp [cmpPl, cb_self, cmpPl_self A]

theorem cmpPl_anti : ∀ A B : List (List UInt8), sgn (cmpPl A B) = - sgn (cmpPl B A)
  | [], [] => by simp [cmpPl, sgn]
  | [], y :: B => by simp only [cmpPl]; unfold sgn; simp; omega
  | x :: A, [] => by simp only [cmpPl]; unfold sgn; simp; omega
  | x :: A, y :: B => by
    have ih := cmpPl_anti A B
    simp only [cmpPl]
    have ha := cb_anti x y
    cases ix : idx x <;> cases iy : idx y
    · simp only [bne_self_eq_false, Bool.false_eq_true, if_false, false_and]
      rw [ha]
      by_cases hc : Lib.compareBytes x y = 0
      · rw [hc]; simpa using ih
      · rw [if_pos hc, if_pos (by omega), sgn_neg]; omega
    · simp [sgn]
    · simp [sgn]
    · simp only [bne_self_eq_false, Bool.false_eq_true, if_false, true_and]
      by_cases hl : x.length = y.length
      · rw [if_neg (show ¬ (x.length ≠ y.length) from fun h => h hl), if_neg (show ¬ (y.length ≠ x.length) from fun h => h hl.symm), ha]
        by_cases hc : Lib.compareBytes x y = 0
        · rw [hc]; simpa using ih
        · rw [if_pos hc, if_pos (by omega), sgn_neg]; omega
      · rw [if_pos (show x.length ≠ y.length from hl), if_pos (show y.length ≠ x.length from fun h => hl h.symm)]
        rw [show ((y.length : Int) - x.length) = -((x.length : Int) - y.length) by omega, sgn_neg]; omega

theorem cmpPl_zero : ∀ A B : List (List UInt8), cmpPl A B = 0 → A = B
  | [], [] => fun _ => rfl
  | [], y :: B => fun h => by simp [cmpPl] at h; omega
  | x :: A, [] => fun h => by simp [cmpPl] at h; omega
  | x :: A, y :: B => fun h => by
    simp only [cmpPl] at h
    by_cases hi : (idx x != idx y) = true
    · rw [if_pos hi] at h; split at h <;> simp at h
    · rw [if_neg hi] at h
      by_cases hl : idx x = true ∧ x.length ≠ y.length
      · rw [if_pos hl] at h; omega
      · rw [if_neg hl] at h
        by_cases hc : Lib.compareBytes x y = 0
        · rw [if_neg (by simpa using hc)] at h
          rw [cb_zero x y hc, cmpPl_zero A B h]
        · rw [if_pos hc] at h; exact absurd h hc

theorem tk_inj {A B : List ByteArray} (h : tk A = tk B) : A = B := by
  unfold tk at h
  induction A generalizing B with
  | nil => cases B <;> simp_all
  | cons a A ih =>
    cases B with
    | nil => simp at h
    | cons b B =>
      simp at h
      obtain ⟨h1, h2⟩ := h
      have : a = b := by obtain ⟨⟨l⟩⟩ := a; obtain ⟨⟨l'⟩⟩ := b; simp_all
      rw [this, ih (by simpa using h2)]

theorem cmp_eq_iff (A B : List ByteArray) : cmpPl (tk A) (tk B) = 0 ↔ A = B :=
  ⟨fun h => tk_inj (cmpPl_zero _ _ h), fun h => by rw [h]; exact cmpPl_self _⟩
end Go.Proofs.Qxb6603403a
