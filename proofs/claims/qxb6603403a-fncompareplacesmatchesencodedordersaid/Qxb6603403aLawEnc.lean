import Derived.Test.Qxb6603403aEnc
namespace Go.Proofs.Qxb6603403a
open Go.RowKit

/-- The bytes of a slice, as the walk reads them. -/
def Rdb (w : World) (a : Option Addr) (X : List UInt8) : Prop := (a = none ∧ X = []) ∨ ∃ g, a = some ⟨g, 0, none⟩ ∧ ∀ j, j < X.length → w.cell? ⟨g, j, none⟩ = some (.int .u8 ((X.getD j 0).toNat : Int))

theorem OwnB.form {base : Nat} {w : World} {v : Value} {X : List UInt8} (h : OwnB base w v X) : ∃ a cap, v = .slice a X.length cap ∧ Rdb w a X := by
  rcases h.2 with ⟨rfl, h0⟩ | ⟨g, cap, cur, rfl, _, hcur, _, _, _, htk⟩
  · have : X = [] := List.eq_nil_of_length_eq_zero h0
    subst this
    exact ⟨none, 0, rfl, .inl ⟨rfl, rfl⟩⟩
  · refine ⟨_, cap, rfl, .inr ⟨g, rfl, fun j hj => ?_⟩⟩
    rw [cell_of_row w g j cur 5 (0, 0) hcur]
    have e := congrArg (fun l => l[j]?) htk
    simp only [List.getElem?_take, bv, List.getElem?_map] at e
    rw [if_pos (by omega), List.getElem?_eq_getElem hj] at e
    rw [List.getD_eq_getElem?_getD, List.getElem?_eq_getElem hj]
    simpa using e

theorem Rdb.grown {w w' : World} {a : Option Addr} {X : List UInt8} (h : Rdb w a X) (hg : w.grownBy w' none) : Rdb w' a X := by
  rcases h with h | ⟨g, rfl, hc⟩
  · exact .inl h
  · exact .inr ⟨g, rfl, fun j hj => hg.cell (hc j hj) (by simp)⟩

theorem Rdb.at {w : World} {a : Option Addr} {X : List UInt8} (h : Rdb w a X) {k : Nat} (hk : k < X.length) : ∃ (g : Nat) (c : UInt8), a = some ⟨g, 0, none⟩ ∧ w.cell? ⟨g, k, none⟩ = some (.int .u8 (c.toNat : Int)) ∧ Hid (c = X.getD k 0) := by
  rcases h with ⟨_, rfl⟩ | ⟨g, rfl, hc⟩
  · simp at hk
  · exact ⟨g, _, rfl, hc k hk, rfl⟩

theorem cb_step (X Y : List UInt8) (k : Nat) (hx : k < X.length) (hy : k < Y.length) (c d : UInt8) (hc : c = X.getD k 0) (hd : d = Y.getD k 0) :
    Lib.compareBytes (X.drop k) (Y.drop k) = if c.toNat < d.toNat then -1 else if d.toNat < c.toNat then 1 else Lib.compareBytes (X.drop (k + 1)) (Y.drop (k + 1)) := by
  have e1 : X.drop k = c :: X.drop (k + 1) := by
    rw [hc, List.drop_eq_getElem_cons hx, List.getD_eq_getElem?_getD, List.getElem?_eq_getElem hx]; rfl
  have e2 : Y.drop k = d :: Y.drop (k + 1) := by
    rw [hd, List.drop_eq_getElem_cons hy, List.getD_eq_getElem?_getD, List.getElem?_eq_getElem hy]; rfl
  rw [e1, e2, Lib.compareBytes]
  simp only [UInt8.lt_iff_toNat_lt]

theorem cb_done (X Y : List UInt8) (k : Nat) (h : X.length ≤ k ∨ Y.length ≤ k) (hx : k ≤ X.length) (hy : k ≤ Y.length) :
    Lib.compareBytes (X.drop k) (Y.drop k) = if X.length < Y.length then -1 else if Y.length < X.length then 1 else 0 := by
  by_cases h1 : X.length = k
  · have e1 : X.drop k = [] := List.drop_eq_nil_of_le (by omega)
    by_cases h2 : Y.length = k
    · have e2 : Y.drop k = [] := List.drop_eq_nil_of_le (by omega)
      rw [e1, e2, if_neg (by omega), if_neg (by omega)]; rfl
    · have e2 : Y.drop k = Y[k] :: Y.drop (k + 1) := List.drop_eq_getElem_cons (by omega)
      rw [e1, e2, if_pos (by omega)]; rfl
  · have hy' : Y.length = k := by omega
    have e2 : Y.drop k = [] := List.drop_eq_nil_of_le (by omega)
    have e1 : X.drop k = X[k] :: X.drop (k + 1) := List.drop_eq_getElem_cons (by omega)
    rw [e1, e2, if_neg (by omega), if_pos (by omega)]; rfl

set_option maxHeartbeats 1600000 in
theorem cmp11 (a b : Option Addr) (ca cb : Nat) (X Y : List UInt8) (w : World) (bx : X.length ≤ 2300000000000) (_byl : Y.length ≤ 2300000000000) (hX : Rdb w a X) (hY : Rdb w b Y) :
    Calls Try.prog 11 #[.slice a X.length ca, .slice b Y.length cb] w fun e w' => e = .returned (.int .i64 (Lib.compareBytes X Y)) ∧ w.grownBy w' none := by
  have HSTEP := hide (cb_step X Y)
  have HDONE := hide (cb_done X Y)
  generalize hLX : X.length = lx at *
  generalize hLY : Y.length = ly at *
  have HLX := hide hLX
  have HLY := hide hLY
  clear hLX hLY
  generalize hR : Lib.compareBytes X Y = R
  have HR := hide hR
  clear hR
  go_enter Try.func11, Try.ntmps11
  go_wp2_with fail
  go_loopw [5] (fun i wr => ∃ k : Nat, k ≤ lx ∧ k ≤ ly ∧ i = .int .i64 k ∧ w.grownBy wr none ∧ Lib.compareBytes (X.drop k) (Y.drop k) = R) (fun i _ => lx - (intOf i).toNat)
  case atStart => exact ⟨0, Nat.zero_le _, Nat.zero_le _, rfl, World.grownBy.refl _ _, unhide HR⟩
  case round =>
    obtain ⟨k, hkx, hky, rfl, hg, hval⟩ := hrel
    have HV := hide hval
    clear hval
    by_cases hlt : k < lx ∧ k < ly
    · obtain ⟨h1, h2⟩ := hlt
      obtain ⟨g1, c, rfl, c1, hc⟩ := (hX.grown hg).at (k := k) (by rw [unhide HLX]; exact h1)
      obtain ⟨g2, d, rfl, c2, hd⟩ := (hY.grown hg).at (k := k) (by rw [unhide HLY]; exact h2)
      have hst := unhide HSTEP k h1 h2 c d hc.out hd.out
      rw [unhide HV] at hst
      have HST := hide hst
      have q1 : (k : Int) < (lx : Int) := by omega
      have q2 : (k : Int) < (ly : Int) := by omega
      clear hst hX hY hc hd
      generalize c.toNat = x at *
      generalize d.toNat = y at *
      rcases Nat.lt_trichotomy x y with h | h | h
      · have hR : R = -1 := by rw [unhide HST, if_pos h]
        have HR' := hide hR
        have t1 : ((x : Int) != (y : Int)) = true := by rw [bne_iff_ne]; omega
        have t2 : (x : Int) < (y : Int) := by omega
        clear hR
        go_wp2_with fail
        go_quiet (fail)
        go_wp2_with fail
        go_quiet (fail)
        go_wp2_with fail
        go_ret
        exact ⟨ret_int (unhide HR').symm, by repeat (first | exact hg | refine grown_drew ?_ | refine grown_drewN ?_ _)⟩
      · have hR : Lib.compareBytes (X.drop (k + 1)) (Y.drop (k + 1)) = R := by rw [unhide HST, if_neg (by omega), if_neg (by omega)]
        have HR' := hide hR
        have t1 : ((x : Int) != (y : Int)) = false := by simp [h]
        clear hR h
        go_wp2_with fail
        go_quiet (fail)
        go_wp2_with fail
        go_roundw
        case rel => exact ⟨k + 1, by omega, by omega, by go_num, by repeat (first | exact hg | refine grown_drew ?_ | refine grown_drewN ?_ _), unhide HR'⟩
        case measure => simp [intOf]; omega
      · have hR : R = 1 := by rw [unhide HST, if_neg (by omega), if_pos h]
        have HR' := hide hR
        have t1 : ((x : Int) != (y : Int)) = true := by rw [bne_iff_ne]; omega
        have t2 : ¬ (x : Int) < (y : Int) := by omega
        clear hR
        go_wp2_with fail
        go_quiet (fail)
        go_wp2_with fail
        go_quiet (fail)
        go_wp2_with fail
        go_ret
        exact ⟨ret_int (unhide HR').symm, by repeat (first | exact hg | refine grown_drew ?_ | refine grown_drewN ?_ _)⟩
    · have hd : R = if lx < ly then -1 else if ly < lx then 1 else 0 := by
        rw [← unhide HV]
        exact unhide HDONE k (by omega) hkx hky
      clear hX hY
      rcases Nat.lt_trichotomy lx ly with h | h | h
      · rw [if_pos h] at hd
        have HD := hide hd
        clear hd
        have h1 : ¬ (k : Int) < (lx : Int) := by omega
        have h2 : (lx : Int) < (ly : Int) := by omega
        go_wp2_with fail
        go_ret
        exact ⟨ret_int (unhide HD).symm, hg⟩
      · rw [if_neg (by omega), if_neg (by omega)] at hd
        have HD := hide hd
        have h1 : ¬ (k : Int) < (lx : Int) := by omega
        have h2 : ¬ (lx : Int) < (ly : Int) := by omega
        have h3 : ¬ (ly : Int) < (lx : Int) := by omega
        clear hd h
        go_wp2_with fail
        go_ret
        exact ⟨ret_int (unhide HD).symm, hg⟩
      · rw [if_neg (by omega), if_pos h] at hd
        have HD := hide hd
        clear hd
        have h1 : (k : Int) < (lx : Int) := by omega
        have h1' : ¬ (k : Int) < (ly : Int) := by omega
        have h2 : ¬ (lx : Int) < (ly : Int) := by omega
        have h3 : (ly : Int) < (lx : Int) := by omega
        go_wp2_with fail
        go_ret
        exact ⟨ret_int (unhide HD).symm, hg⟩

theorem enc_len_small (A : List ByteArray) (sA : Small A) : (encPl (tk A)).length ≤ 2300000000000 := by
  have := enc_len A sA.2
  have h2 : A.length * 2097163 ≤ 1048576 * 2097163 := Nat.mul_le_mul_right _ sA.1
  omega

theorem tk_small (A : List ByteArray) (sA : Small A) : ∀ t ∈ tk A, t.length ≤ 1048576 := by
  intro t ht
  obtain ⟨s, hs, rfl⟩ := List.mem_map.1 ht
  exact sA.2 s hs

set_option maxRecDepth 100000 in
set_option maxHeartbeats 1600000 in
theorem law3 (a b : Option Addr) (ca cb : Nat) (A B : List ByteArray) (w : World) (ha : A.length ≤ maxLen) (hb : B.length ≤ maxLen) (hA : Rds w a A) (hB : Rds w b B) (mA : ∀ s ∈ A, s.size ≤ maxLen) (mB : ∀ s ∈ B, s.size ≤ maxLen) (na : a = none → ca = 0) (nb : b = none → cb = 0) :
    Calls Try.prog 3 #[.slice a A.length ca, .slice b B.length cb] w fun e w' => e = .returned (.bool true) ∧ w.grownBy w' none := by
  go_enter Try.func3, Try.ntmps3
  go_wp2_with fail
  refine (bytes6 a b ca cb A B w ha hb hA hB mA mB).mono ?_
  rintro e w1 ⟨⟨r, rfl, hr⟩, rfl⟩
  cases r
  · clear hr
    go_wp2_with fail
    go_ret
    exact ⟨rfl, World.grownBy.refl _ _⟩
  obtain ⟨sA, sB⟩ := hr rfl
  clear hr
  have SA := hide sA
  have SB := hide sB
  clear sA sB mA mB
  go_wp2_with fail
  refine (bytes7 a ca A w (unhide SA).2 (unhide SA).1 hA).mono ?_
  rintro e w1 ⟨n1, rfl, ⟨p0, p1, p2⟩, rfl⟩
  go_wp2_with fail
  refine (bytes7 b cb B w (unhide SB).2 (unhide SB).1 hB).mono ?_
  rintro e w1 ⟨n2, rfl, ⟨q0, q1, q2⟩, rfl⟩
  by_cases hs : 1048576 < n1 + n2
  · clear p2 q2
    go_wp2_with fail
    go_ret
    exact ⟨rfl, World.grownBy.refl _ _⟩
  clear p2 q2
  go_wp2_with fail
  refine (clone8 a ca A w na (unhide SA).1 hA).mono ?_
  rintro e w1 ⟨a', rfl, oA, g1⟩
  go_wp2_with fail
  refine (clone8 b cb B w1 nb (unhide SB).1 (hB.grown g1)).mono ?_
  rintro e w2 ⟨b', rfl, oB, g2⟩
  have rA := (oA.kept0 g2).rd
  have rB := oB.rd
  have gw2 := g1.trans g2
  clear oA oB g1 g2 hA hB
  go_wp2_with fail
  refine (places10 a' b' A.length B.length A B w2 (unhide SA) (unhide SB) rA rB).mono ?_
  rintro e w3 ⟨rfl, g3⟩
  have rA3 := rA.grown g3
  have rB3 := rB.grown g3
  have hfin := enc_cmp (tk A) (tk B) (tk_small A (unhide SA)) (tk_small B (unhide SB))
  have HF := hide hfin
  clear rA rB hfin
  generalize cmpPl (tk A) (tk B) = v at *
  go_wp2_with fail
  refine (sign9 v _).mono ?_
  rintro e w4 ⟨rfl, rfl⟩
  generalize sgn v = sg at *
  go_wp2_with fail
  refine (enc12 a' A.length A w3 (unhide SA) rA3).mono ?_
  rintro e w4 ⟨v1, rfl, o1, g4⟩
  go_wp2_with fail
  refine (enc12 b' B.length B w4 (unhide SB) (rB3.grown g4)).mono ?_
  rintro e w5 ⟨v2, rfl, o2, g5⟩
  obtain ⟨a1, c1, rfl, f1⟩ := o1.form
  obtain ⟨a2, c2, rfl, f2⟩ := o2.form
  have l1 := enc_len_small A (unhide SA)
  have l2 := enc_len_small B (unhide SB)
  have f1' := f1.grown g5
  have gw5 := ((gw2.trans g3).trans g4).trans g5
  clear o1 o2 f1 rA3 rB3 gw2 g3 g4 g5
  generalize encPl (tk A) = X at *
  generalize encPl (tk B) = Y at *
  go_wp2_with fail
  refine (cmp11 a1 a2 c1 c2 X Y w5 l1 l2 f1' f2).mono ?_
  rintro e w6 ⟨rfl, g6⟩
  rw [unhide HF]
  clear f1' f2
  go_wp2_with fail
  go_ret
  exact ⟨ret_bool (by simp), gw5.trans g6⟩
end Go.Proofs.Qxb6603403a
