import Derived.Test.Qxb6603403aItoa
import Derived.Test.Qxb6603403aSplice
import Derived.Test.Qxb6603403aBytes15
namespace Go.Proofs.Qxb6603403a
open Go.RowKit

theorem tk_join (A B : List ByteArray) (s : ByteArray) : tk (A ++ s :: B) = tk A ++ s.data.toList :: tk B := by simp [tk]

theorem small_join {A B : List ByteArray} {s : ByteArray} {j n : Nat} (sA : Small A) (sB : Small B) (la : A.length ≤ 65536) (lb : B.length ≤ 65536) (hs : IsDec n j s.data.toList) : Small (A ++ s :: B) := by
  refine ⟨by simp; omega, fun t ht => ?_⟩
  rcases List.mem_append.1 ht with h | h
  · exact sA.2 t h
  · rcases List.mem_cons.1 h with rfl | h
    · have e : t.data.toList.length = j := by rw [hs.2.2.2.2]; exact dgs_length _ _ _ _
      have : t.size = j := e
      have := hs.2.1
      omega
    · exact sB.2 t h

set_option maxRecDepth 100000 in
set_option maxHeartbeats 3200000 in
theorem law5 (a b c : Option Addr) (ca cb cc : Nat) (A B C : List ByteArray) (n m : Nat) (w : World) (hn : n < 18446744073709551616) (hm : m < 18446744073709551616) (ha : A.length ≤ maxLen) (hb : B.length ≤ maxLen) (hc : C.length ≤ maxLen) (hA : Rds w a A) (hB : Rds w b B) (hC : Rds w c C) (mA : ∀ s ∈ A, s.size ≤ maxLen) (mB : ∀ s ∈ B, s.size ≤ maxLen) (mC : ∀ s ∈ C, s.size ≤ maxLen) (na : a = none → ca = 0) (nb : b = none → cb = 0) (nc : c = none → cc = 0) :
    Calls Try.prog 5 #[.slice a A.length ca, .int .u64 n, .int .u64 m, .slice b B.length cb, .slice c C.length cc] w fun e w' => e = .returned (.bool true) ∧ w.grownBy w' none := by
  have HN := hide hn
  have HM := hide hm
  clear hn hm
  go_enter Try.func5, Try.ntmps5
  go_wp2_with fail
  refine (bytes15 a b c ca cb cc A B C n m w ha hb hc hA hB hC mA mB mC).mono ?_
  rintro e w1 ⟨⟨r, rfl, hr⟩, rfl⟩
  cases r
  · clear hr
    go_wp2_with fail
    go_ret
    exact ⟨rfl, World.grownBy.refl _ _⟩
  obtain ⟨sA, sB, sC⟩ := hr rfl
  clear hr
  have SA := hide sA
  have SB := hide sB
  have SC := hide sC
  clear sA sB sC mA mB mC
  go_wp2_with fail
  refine (bytes7 a ca A w (unhide SA).2 (unhide SA).1 hA).mono ?_
  rintro e w1 ⟨n1, rfl, ⟨p0, p1, p2⟩, rfl⟩
  go_wp2_with fail
  refine (bytes7 b cb B w (unhide SB).2 (unhide SB).1 hB).mono ?_
  rintro e w1 ⟨n2, rfl, ⟨q0, q1, q2⟩, rfl⟩
  go_wp2_with fail
  refine (bytes7 c cc C w (unhide SC).2 (unhide SC).1 hC).mono ?_
  rintro e w1 ⟨n3, rfl, ⟨r0, r1, r2⟩, rfl⟩
  by_cases hs : 1048576 < n1 + n2 + n3
  · clear p2 q2 r2
    go_wp2_with fail
    go_ret
    exact ⟨rfl, World.grownBy.refl _ _⟩
  have lA : A.length ≤ 65536 := by have := p2 (by omega); omega
  have lB : B.length ≤ 65536 := by have := q2 (by omega); omega
  have lC : C.length ≤ 65536 := by have := r2 (by omega); omega
  clear p2 q2 r2
  go_wp2_with fail
  refine (clone8 a ca A w na (unhide SA).1 hA).mono ?_
  rintro e w1 ⟨a', rfl, oA, g1⟩
  go_wp2_with fail
  refine (clone8 b cb B w1 nb (unhide SB).1 (hB.grown g1)).mono ?_
  rintro e w2 ⟨b', rfl, oB, g2⟩
  go_wp2_with fail
  refine (clone8 c cc C w2 nc (unhide SC).1 (hC.grown (g1.trans g2))).mono ?_
  rintro e w3 ⟨c', rfl, oC, g3⟩
  have rA := ((oA.kept0 g2).kept0 g3).rd
  have rB := (oB.kept0 g3).rd
  have rC := oC.rd
  have gw3 := (g1.trans g2).trans g3
  clear oA oB oC g1 g2 g3 hA hB hC
  go_wp2_with fail
  refine (itoa17 n w3 (unhide HN)).mono ?_
  rintro e w4 ⟨x, j, rfl, hx, g4⟩
  have HX := hide hx
  clear hx
  go_wp2_with fail
  refine (splice16 a' b' A.length B.length A B x w4 (unhide SA) (unhide SB) (rA.grown g4) (rB.grown g4)).mono ?_
  rintro e w5 ⟨gx, rfl, ox, g5⟩
  have SX := hide (small_join (unhide SA) (unhide SB) lA lB (unhide HX))
  generalize hLX : A ++ x :: B = X at *
  have HLX := hide hLX
  clear hLX
  have g45 := g4.trans g5
  have rA5 := rA.grown g45
  have rB5 := rB.grown g45
  have rC5 := rC.grown g45
  clear rA rB rC g4 g5
  go_wp2_with fail
  refine (itoa17 m w5 (unhide HM)).mono ?_
  rintro e w6 ⟨y, k, rfl, hy, g6⟩
  have HY := hide hy
  clear hy
  go_wp2_with fail
  refine (splice16 a' c' A.length C.length A C y w6 (unhide SA) (unhide SC) (rA5.grown g6) (rC5.grown g6)).mono ?_
  rintro e w7 ⟨gy, rfl, oy, g7⟩
  have SY := hide (small_join (unhide SA) (unhide SC) lA lC (unhide HY))
  generalize hLY : A ++ y :: C = Y at *
  have HLY := hide hLY
  clear hLY
  have g67 := g6.trans g7
  have rB7 := rB5.grown g67
  have rC7 := rC5.grown g67
  have rx := (ox.kept0 g67).rd
  have ry := oy.rd
  have gw7 := (gw3.trans g45).trans g67
  clear rA5 rB5 rC5 g6 g7 ox oy
  go_wp2_with fail
  refine (places10 (some ⟨gx, 0, none⟩) (some ⟨gy, 0, none⟩) X.length Y.length X Y w7 (unhide SX) (unhide SY) rx ry).mono ?_
  rintro e w8 ⟨rfl, g8⟩
  have hcmp : cmpPl (tk X) (tk Y) = cmpPl (x.data.toList :: tk B) (y.data.toList :: tk C) := by
    rw [← unhide HLX, ← unhide HLY, tk_join, tk_join, cmpPl_pre]
  rw [hcmp]
  have gw8 := gw7.trans g8
  have rB8 := rB7.grown g8
  have rC8 := rC7.grown g8
  clear hcmp rx ry rB7 rC7 gw7 gw3 g45 g67 g8
  rcases Nat.lt_trichotomy n m with h | h | h
  · have hv := cmpPl_dec_lt (unhide HX) (unhide HY) h (tk B) (tk C)
    generalize cmpPl (x.data.toList :: tk B) (y.data.toList :: tk C) = v at *
    have hi : (n : Int) < (m : Int) := by omega
    clear rB8 rC8
    go_wp2_with fail
    go_ret
    exact ⟨ret_bool (by simp), gw8⟩
  · have hxy : x.data.toList = y.data.toList := by
      have h2 := unhide HY
      rw [← h] at h2
      exact dec_same (unhide HX) h2
    rw [hxy, cmpPl_cons]
    clear hxy
    have h1 : ¬ (n : Int) < (m : Int) := by omega
    have h2 : ¬ (m : Int) < (n : Int) := by omega
    clear h
    go_wp2_with fail
    refine (places10 b' c' B.length C.length B C w8 (unhide SB) (unhide SC) rB8 rC8).mono ?_
    rintro e w9 ⟨rfl, g9⟩
    clear rB8 rC8
    generalize cmpPl (tk B) (tk C) = v at *
    go_wp2_with fail
    go_ret
    exact ⟨ret_bool (by simp), gw8.trans g9⟩
  · have hv := cmpPl_dec_gt (unhide HX) (unhide HY) h (tk B) (tk C)
    generalize cmpPl (x.data.toList :: tk B) (y.data.toList :: tk C) = v at *
    have hi : (m : Int) < (n : Int) := by omega
    have hi' : ¬ (n : Int) < (m : Int) := by omega
    clear rB8 rC8
    go_wp2_with fail
    go_ret
    exact ⟨ret_bool (by simp), gw8⟩
end Go.Proofs.Qxb6603403a
