import Derived.Test.Qxb6603403aPlain
import Derived.Test.Qxb6603403aDigits
namespace Go.Proofs.Qxb6603403a

theorem dgs_self_eq (b off n m : Nat) : ∀ j, n % b ^ j = m % b ^ j → 0 < b → dgs b off n j = dgs b off m j
  | 0, _, _ => rfl
  | j + 1, h, hb => by
    have hn : n / b ^ j % b = n % b ^ (j + 1) / b ^ j := by rw [Nat.pow_succ, Nat.mod_mul_right_div_self]
    have hm : m / b ^ j % b = m % b ^ (j + 1) / b ^ j := by rw [Nat.pow_succ, Nat.mod_mul_right_div_self]
    have hl : n % b ^ j = m % b ^ j := by
      have e1 : n % b ^ j = n % b ^ (j + 1) % b ^ j := by rw [Nat.pow_succ, Nat.mod_mul_right_mod]
      have e2 : m % b ^ j = m % b ^ (j + 1) % b ^ j := by rw [Nat.pow_succ, Nat.mod_mul_right_mod]
      rw [e1, e2, h]
    simp only [dgs]
    rw [hn, hm, h, dgs_self_eq b off n m j hl hb]

/-- The decimal text of n, j digits long. -/
def IsDec (n j : Nat) (l : List UInt8) : Prop := 1 ≤ j ∧ j ≤ 20 ∧ n < 10 ^ j ∧ (j = 1 ∨ 10 ^ (j - 1) ≤ n) ∧ l = dgs 10 48 n j

theorem dgs_idx (n : Nat) : ∀ j, idx (dgs 10 48 n j) = true
  | 0 => rfl
  | j + 1 => by
    have ih := dgs_idx n j
    unfold idx at ih ⊢
    simp only [dgs, List.all_cons, ih, Bool.and_true, Bool.and_eq_true, decide_eq_true_eq]
    have h := Nat.mod_lt (n / 10 ^ j) (show 0 < 10 by omega)
    have t : (UInt8.ofNat (48 + n / 10 ^ j % 10)).toNat = 48 + n / 10 ^ j % 10 := by
      rw [UInt8.toNat_ofNat']; exact Nat.mod_eq_of_lt (by omega)
    rw [t]; omega

theorem dec_len {n m j k : Nat} {x y : List UInt8} (hx : IsDec n j x) (hy : IsDec m k y) (h : n ≤ m) : j ≤ k := by
  obtain ⟨_, _, _, h1, _⟩ := hx
  obtain ⟨h0, _, h2, _, _⟩ := hy
  rcases h1 with h1 | h1
  · omega
  · by_cases hjk : j ≤ k
    · exact hjk
    · exfalso
      have : 10 ^ k ≤ 10 ^ (j - 1) := Nat.pow_le_pow_right (by omega) (by omega)
      omega

theorem dec_same {n j k : Nat} {x y : List UInt8} (hx : IsDec n j x) (hy : IsDec n k y) : x = y := by
  have e : j = k := Nat.le_antisymm (dec_len hx hy (Nat.le_refl _)) (dec_len hy hx (Nat.le_refl _))
  subst e
  rw [hx.2.2.2.2, hy.2.2.2.2]

theorem cmpPl_dec_lt {n m j k : Nat} {x y : List UInt8} (hx : IsDec n j x) (hy : IsDec m k y) (h : n < m) (A B : List (List UInt8)) : cmpPl (x :: A) (y :: B) < 0 := by
  have hjk := dec_len hx hy (Nat.le_of_lt h)
  have ix : idx x = true := by rw [hx.2.2.2.2]; exact dgs_idx _ _
  have iy : idx y = true := by rw [hy.2.2.2.2]; exact dgs_idx _ _
  have lx : x.length = j := by rw [hx.2.2.2.2]; exact dgs_length _ _ _ _
  have ly : y.length = k := by rw [hy.2.2.2.2]; exact dgs_length _ _ _ _
  simp only [cmpPl, ix, iy, bne_self_eq_false, Bool.false_eq_true, if_false, true_and]
  by_cases he : j = k
  · subst he
    have hc : Lib.compareBytes x y = -1 := by
      have := dgs_lt 10 48 n m (by omega) (by omega) j [] [] (by
        rw [Nat.mod_eq_of_lt hx.2.2.1, Nat.mod_eq_of_lt hy.2.2.1]; exact h)
      rw [List.append_nil, List.append_nil, ← hx.2.2.2.2, ← hy.2.2.2.2] at this
      exact this
    rw [if_neg (by rw [lx, ly]; simp), hc]
    simp
  · rw [if_pos (by rw [lx, ly]; exact he), lx, ly]
    omega

theorem cmpPl_pre : ∀ (P X Y : List (List UInt8)), cmpPl (P ++ X) (P ++ Y) = cmpPl X Y
  | [], _, _ => rfl
  | p :: P, X, Y => by
    show cmpPl (p :: (P ++ X)) (p :: (P ++ Y)) = _
    simp [cmpPl, cb_self, cmpPl_pre P X Y]

theorem cmpPl_cons (p : List UInt8) (X Y : List (List UInt8)) : cmpPl (p :: X) (p :: Y) = cmpPl X Y := cmpPl_pre [p] X Y

theorem cmpPl_dec_gt {n m j k : Nat} {x y : List UInt8} (hx : IsDec n j x) (hy : IsDec m k y) (h : m < n) (A B : List (List UInt8)) : 0 < cmpPl (x :: A) (y :: B) := by
  have h1 := cmpPl_dec_lt hy hx h B A
  have h2 := cmpPl_anti (x :: A) (y :: B)
  have h3 : sgn (cmpPl (y :: B) (x :: A)) = -1 := if_pos h1
  rw [h3] at h2
  unfold sgn at h2
  split at h2
  · omega
  · split at h2
    · assumption
    · omega

/-! ### The order-preserving code -/

def esc : List UInt8 → List UInt8
  | [] => []
  | c :: l => (if c = 0 then [0, 255] else [c]) ++ esc l

def encTok (t : List UInt8) : List UInt8 := (if idx t then 0 :: dgs 256 0 t.length 8 else [1]) ++ (esc t ++ [0, 1])
def encPl : List (List UInt8) → List UInt8
  | [] => []
  | t :: A => encTok t ++ encPl A

theorem cb_bound : ∀ x y : List UInt8, Lib.compareBytes x y = -1 ∨ Lib.compareBytes x y = 0 ∨ Lib.compareBytes x y = 1
  | [], [] => .inr (.inl rfl)
  | [], _ :: _ => .inl rfl
  | _ :: _, [] => .inr (.inr rfl)
  | a :: xs, b :: ys => by
    rw [Lib.compareBytes]
    split
    · exact .inl rfl
    · split
      · exact .inr (.inr rfl)
      · exact cb_bound xs ys

theorem sgn_cb (x y : List UInt8) : sgn (Lib.compareBytes x y) = Lib.compareBytes x y := by
  rcases cb_bound x y with h | h | h <;> rw [h] <;> rfl

theorem pos_of_ne {b : UInt8} (h : b ≠ 0) : 0 < b.toNat := by
  rcases Nat.eq_zero_or_pos b.toNat with h0 | h0
  · exact absurd (UInt8.toNat_inj.1 (by simpa using h0)) h
  · exact h0

theorem esc_cmp : ∀ (x y X Y : List UInt8), Lib.compareBytes (esc x ++ 0 :: 1 :: X) (esc y ++ 0 :: 1 :: Y) = if Lib.compareBytes x y ≠ 0 then Lib.compareBytes x y else Lib.compareBytes X Y
  | [], [], X, Y => by simp [esc, Lib.compareBytes]
  | [], b :: ys, X, Y => by
    have e : Lib.compareBytes [] (b :: ys) = -1 := rfl
    rw [e]
    by_cases hb : b = 0
    · subst hb
      show Lib.compareBytes (0 :: 1 :: X) (0 :: 255 :: (esc ys ++ 0 :: 1 :: Y)) = _
      rw [cb_cons, cb_lt (by decide)]; rfl
    · have : esc (b :: ys) = b :: esc ys := by simp [esc, hb]
      rw [this]
      show Lib.compareBytes (0 :: 1 :: X) (b :: (esc ys ++ 0 :: 1 :: Y)) = _
      rw [cb_lt (by simpa using pos_of_ne hb)]; rfl
  | a :: xs, [], X, Y => by
    have e : Lib.compareBytes (a :: xs) [] = 1 := rfl
    rw [e]
    by_cases ha : a = 0
    · subst ha
      show Lib.compareBytes (0 :: 255 :: (esc xs ++ 0 :: 1 :: X)) (0 :: 1 :: Y) = _
      rw [cb_cons, cb_gt (by decide)]; rfl
    · have : esc (a :: xs) = a :: esc xs := by simp [esc, ha]
      rw [this]
      show Lib.compareBytes (a :: (esc xs ++ 0 :: 1 :: X)) (0 :: 1 :: Y) = _
      rw [cb_gt (by simpa using pos_of_ne ha)]; rfl
  | a :: xs, b :: ys, X, Y => by
    have ih := esc_cmp xs ys X Y
    rcases Nat.lt_trichotomy a.toNat b.toNat with h | h | h
    · have e : Lib.compareBytes (a :: xs) (b :: ys) = -1 := cb_lt h _ _
      rw [e]
      have hb : b ≠ 0 := by intro h0; rw [h0] at h; simp at h
      have eb : esc (b :: ys) = b :: esc ys := by simp [esc, hb]
      rw [eb]
      by_cases ha : a = 0
      · subst ha
        show Lib.compareBytes (0 :: 255 :: (esc xs ++ 0 :: 1 :: X)) (b :: (esc ys ++ 0 :: 1 :: Y)) = _
        rw [cb_lt h]; rfl
      · have ea : esc (a :: xs) = a :: esc xs := by simp [esc, ha]
        rw [ea]
        show Lib.compareBytes (a :: (esc xs ++ 0 :: 1 :: X)) (b :: (esc ys ++ 0 :: 1 :: Y)) = _
        rw [cb_lt h]; rfl
    · have e : a = b := UInt8.toNat_inj.1 h
      subst e
      rw [cb_cons]
      simp only [esc, List.append_assoc]
      rw [cb_pre]
      exact ih
    · have e : Lib.compareBytes (a :: xs) (b :: ys) = 1 := cb_gt h _ _
      rw [e]
      have ha : a ≠ 0 := by intro h0; rw [h0] at h; simp at h
      have ea : esc (a :: xs) = a :: esc xs := by simp [esc, ha]
      rw [ea]
      by_cases hb : b = 0
      · subst hb
        show Lib.compareBytes (a :: (esc xs ++ 0 :: 1 :: X)) (0 :: 255 :: (esc ys ++ 0 :: 1 :: Y)) = _
        rw [cb_gt h]; rfl
      · have eb : esc (b :: ys) = b :: esc ys := by simp [esc, hb]
        rw [eb]
        show Lib.compareBytes (a :: (esc xs ++ 0 :: 1 :: X)) (b :: (esc ys ++ 0 :: 1 :: Y)) = _
        rw [cb_gt h]; rfl

/-- The code compares as the places do. -/
theorem enc_cmp : ∀ (A B : List (List UInt8)), (∀ t ∈ A, t.length ≤ 1048576) → (∀ t ∈ B, t.length ≤ 1048576) → Lib.compareBytes (encPl A) (encPl B) = sgn (cmpPl A B)
  | [], [], _, _ => rfl
  | [], y :: B, _, _ => by
    have h1 : ∃ c l, encPl (y :: B) = c :: l := by
      simp only [encPl, encTok]
      split
      · exact ⟨_, _, rfl⟩
      · exact ⟨_, _, rfl⟩
    obtain ⟨c, l, h1⟩ := h1
    rw [h1]
    show (-1 : Int) = sgn (-((y :: B).length : Int))
    unfold sgn
    rw [if_pos (by rw [List.length_cons]; omega)]
  | x :: A, [], _, _ => by
    have h1 : ∃ c l, encPl (x :: A) = c :: l := by
      simp only [encPl, encTok]
      split
      · exact ⟨_, _, rfl⟩
      · exact ⟨_, _, rfl⟩
    obtain ⟨c, l, h1⟩ := h1
    rw [h1, cmpPl_nil_right]
    show (1 : Int) = sgn ((x :: A).length : Int)
    unfold sgn
    rw [if_neg (by rw [List.length_cons]; omega), if_pos (by rw [List.length_cons]; omega)]
  | x :: A, y :: B, hA, hB => by
    have ih := enc_cmp A B (fun t ht => hA t (by simp [ht])) (fun t ht => hB t (by simp [ht]))
    have lx : x.length ≤ 1048576 := hA x (by simp)
    have ly : y.length ≤ 1048576 := hB y (by simp)
    have core : Lib.compareBytes (esc x ++ 0 :: 1 :: encPl A) (esc y ++ 0 :: 1 :: encPl B) = if Lib.compareBytes x y ≠ 0 then Lib.compareBytes x y else sgn (cmpPl A B) := by
      rw [← ih]; exact esc_cmp x y (encPl A) (encPl B)
    simp only [encPl, encTok, cmpPl]
    cases ix : idx x <;> cases iy : idx y
    · simp only [bne_self_eq_false, Bool.false_eq_true, if_false, false_and, List.append_assoc, List.cons_append, List.nil_append]
      rw [cb_cons, core]
      by_cases hc : Lib.compareBytes x y = 0
      · rw [hc]; rfl
      · rw [if_pos hc, if_pos hc, sgn_cb]
    · simp only [Bool.false_eq_true, if_false, if_true]
      show Lib.compareBytes (1 :: _) (0 :: _) = sgn 1
      rw [cb_gt (by decide)]; rfl
    · simp only [Bool.false_eq_true, if_false, if_true]
      show Lib.compareBytes (0 :: _) (1 :: _) = sgn (-1)
      rw [cb_lt (by decide)]; rfl
    · simp only [bne_self_eq_false, Bool.false_eq_true, if_false, true_and, if_true, List.append_assoc, List.cons_append, List.nil_append]
      rw [cb_cons]
      have mx : x.length % 256 ^ 8 = x.length := Nat.mod_eq_of_lt (by omega)
      have my : y.length % 256 ^ 8 = y.length := Nat.mod_eq_of_lt (by omega)
      rcases Nat.lt_trichotomy x.length y.length with h | h | h
      · rw [dgs_lt 256 0 x.length y.length (by omega) (by omega) 8 _ _ (by rw [mx, my]; exact h), if_pos (by omega)]
        unfold sgn; rw [if_pos (by omega)]
      · rw [if_neg (by omega), h, cb_pre, core]
        by_cases hc : Lib.compareBytes x y = 0
        · rw [hc]; rfl
        · rw [if_pos hc, if_pos hc, sgn_cb]
      · rw [if_pos (by omega)]
        have := cb_anti (dgs 256 0 x.length 8 ++ (esc x ++ 0 :: 1 :: encPl A)) (dgs 256 0 y.length 8 ++ (esc y ++ 0 :: 1 :: encPl B))
        have h2 := dgs_lt 256 0 y.length x.length (by omega) (by omega) 8 (esc y ++ 0 :: 1 :: encPl B) (esc x ++ 0 :: 1 :: encPl A) (by rw [mx, my]; exact h)
        unfold sgn
        rw [if_neg (by omega), if_pos (by omega)]
        omega
end Go.Proofs.Qxb6603403a
