import Derived.Lib.Bytealg
namespace Go.Proofs.Qxb6603403a

/-- The j low digits of n in base b, most significant first, each shifted by 'off'. -/
def dgs (b off n : Nat) : Nat → List UInt8
  | 0 => []
  | j + 1 => UInt8.ofNat (off + n / b ^ j % b) :: dgs b off n j

theorem dgs_length (b off n : Nat) : ∀ j, (dgs b off n j).length = j
  | 0 => rfl
  | j + 1 => by simp [dgs, dgs_length b off n j]

theorem cb_pre : ∀ (p x y : List UInt8), Lib.compareBytes (p ++ x) (p ++ y) = Lib.compareBytes x y
  | [], _, _ => rfl
  | a :: p, x, y => by
    have h : ¬ a < a := by rw [UInt8.lt_iff_toNat_lt]; omega
    show Lib.compareBytes (a :: (p ++ x)) (a :: (p ++ y)) = _
    rw [Lib.compareBytes, if_neg h, if_neg h, cb_pre p x y]

theorem cb_cons (a : UInt8) (x y : List UInt8) : Lib.compareBytes (a :: x) (a :: y) = Lib.compareBytes x y := cb_pre [a] x y
theorem cb_lt {a b : UInt8} (h : a.toNat < b.toNat) (x y : List UInt8) : Lib.compareBytes (a :: x) (b :: y) = -1 := by
  rw [Lib.compareBytes, if_pos (UInt8.lt_iff_toNat_lt.2 h)]
theorem cb_gt {a b : UInt8} (h : b.toNat < a.toNat) (x y : List UInt8) : Lib.compareBytes (a :: x) (b :: y) = 1 := by
  rw [Lib.compareBytes, if_neg (by rw [UInt8.lt_iff_toNat_lt]; omega), if_pos (UInt8.lt_iff_toNat_lt.2 h)]

/-- Two numbers' digits compare as the numbers do. -/
theorem dgs_lt (b off n m : Nat) (hb : 0 < b) (ho : off + b ≤ 256) : ∀ (j : Nat) (x y : List UInt8), n % b ^ j < m % b ^ j → Lib.compareBytes (dgs b off n j ++ x) (dgs b off m j ++ y) = -1
  | 0, x, y => fun h => by simp [Nat.mod_one] at h
  | j + 1, x, y => fun h => by
    have hn : n % b ^ (j + 1) = b ^ j * (n / b ^ j % b) + n % b ^ j := by rw [Nat.pow_succ, Nat.mod_mul, Nat.add_comm]
    have hm : m % b ^ (j + 1) = b ^ j * (m / b ^ j % b) + m % b ^ j := by rw [Nat.pow_succ, Nat.mod_mul, Nat.add_comm]
    have ln : n / b ^ j % b < b := Nat.mod_lt _ hb
    have lm : m / b ^ j % b < b := Nat.mod_lt _ hb
    have pn : n % b ^ j < b ^ j := Nat.mod_lt _ (Nat.pow_pos hb)
    have pm : m % b ^ j < b ^ j := Nat.mod_lt _ (Nat.pow_pos hb)
    rw [hn, hm] at h
    have tn : (UInt8.ofNat (off + n / b ^ j % b)).toNat = off + n / b ^ j % b := by
      rw [UInt8.toNat_ofNat']; exact Nat.mod_eq_of_lt (by omega)
    have tm : (UInt8.ofNat (off + m / b ^ j % b)).toNat = off + m / b ^ j % b := by
      rw [UInt8.toNat_ofNat']; exact Nat.mod_eq_of_lt (by omega)
    show Lib.compareBytes (UInt8.ofNat (off + n / b ^ j % b) :: (dgs b off n j ++ x)) (UInt8.ofNat (off + m / b ^ j % b) :: (dgs b off m j ++ y)) = -1
    rcases Nat.lt_trichotomy (n / b ^ j % b) (m / b ^ j % b) with hd | hd | hd
    · exact cb_lt (by omega) _ _
    · rw [hd] at h ⊢
      rw [cb_cons]
      exact dgs_lt b off n m hb ho j x y (by omega)
    · exfalso
      have : b ^ j * (m / b ^ j % b) + b ^ j ≤ b ^ j * (n / b ^ j % b) := by
        have : b ^ j * (m / b ^ j % b + 1) ≤ b ^ j * (n / b ^ j % b) := Nat.mul_le_mul_left _ hd
        rwa [Nat.mul_add, Nat.mul_one] at this
      clear hn hm tn tm ln lm hd
      generalize b ^ j * (n / b ^ j % b) = u at *
      generalize b ^ j * (m / b ^ j % b) = v at *
      generalize n % b ^ j = r at *
      generalize m % b ^ j = t at *
      generalize b ^ j = q at *
      omega
end Go.Proofs.Qxb6603403a
