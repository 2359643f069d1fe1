import Derived.Test.Qxb6603403aSame
namespace Go.Proofs.Qxb6603403a
open Go.RowKit

set_option maxRecDepth 100000 in
set_option maxHeartbeats 1600000 in
theorem law4 (a b : Option Addr) (ca cb : Nat) (A B : List ByteArray) (w : World) (ha : A.length ≤ maxLen) (hb : B.length ≤ maxLen) (hA : Rds w a A) (hB : Rds w b B) (mA : ∀ s ∈ A, s.size ≤ maxLen) (mB : ∀ s ∈ B, s.size ≤ maxLen) (na : a = none → ca = 0) (nb : b = none → cb = 0) :
    Calls Try.prog 4 #[.slice a A.length ca, .slice b B.length cb] w fun e w' => e = .returned (.bool true) ∧ w.grownBy w' none := by
  go_enter Try.func4, Try.ntmps4
  go_wp2_with fail
  refine (bytes13 a b ca cb A B w ha hb hA hB mA mB).mono ?_
  rintro e w1 ⟨⟨r, rfl, hr⟩, rfl⟩
  cases r
  · clear hr
    go_wp2_with fail
    go_ret
    exact ⟨rfl, World.grownBy.refl _ _⟩
  obtain ⟨sA, sB⟩ := hr rfl
  clear hr
  have SA := hide sA
  have SB := hide sB
  clear sA sB mA mB
  go_wp2_with fail
  refine (bytes7 a ca A w (unhide SA).2 (unhide SA).1 hA).mono ?_
  rintro e w1 ⟨n1, rfl, ⟨p0, p1, p2⟩, rfl⟩
  go_wp2_with fail
  refine (bytes7 b cb B w (unhide SB).2 (unhide SB).1 hB).mono ?_
  rintro e w1 ⟨n2, rfl, ⟨q0, q1, q2⟩, rfl⟩
  by_cases hs : 1048576 < n1 + n2
  · clear p2 q2
    go_wp2_with fail
    go_ret
    exact ⟨rfl, World.grownBy.refl _ _⟩
  clear p2 q2
  go_wp2_with fail
  refine (clone8 a ca A w na (unhide SA).1 hA).mono ?_
  rintro e w1 ⟨a', rfl, oA, g1⟩
  go_wp2_with fail
  refine (clone8 b cb B w1 nb (unhide SB).1 (hB.grown g1)).mono ?_
  rintro e w2 ⟨b', rfl, oB, g2⟩
  have rA := (oA.kept0 g2).rd
  have rB := oB.rd
  have gw2 := g1.trans g2
  clear oA oB g1 g2 hA hB
  go_wp2_with fail
  refine (places10 a' a' A.length A.length A A w2 (unhide SA) (unhide SA) rA rA).mono ?_
  rintro e w3 ⟨rfl, g3⟩
  have z1 := cmpPl_self (tk A)
  rw [z1]
  have rA3 := rA.grown g3
  have rB3 := rB.grown g3
  clear z1 rA rB
  go_wp2_with fail
  refine (places10 a' b' A.length B.length A B w3 (unhide SA) (unhide SB) rA3 rB3).mono ?_
  rintro e w4 ⟨rfl, g4⟩
  have rA4 := rA3.grown g4
  have rB4 := rB3.grown g4
  clear rA3 rB3
  go_wp2_with fail
  refine (places10 b' a' B.length A.length B A w4 (unhide SB) (unhide SA) rB4 rA4).mono ?_
  rintro e w5 ⟨rfl, g5⟩
  have rA5 := rA4.grown g5
  have rB5 := rB4.grown g5
  have hanti := cmpPl_anti (tk A) (tk B)
  have heq := cmp_eq_iff A B
  have gw5 := ((gw2.trans g3).trans g4).trans g5
  clear rA4 rB4 gw2 g3 g4 g5
  have HE := hide heq
  have HAN := hide hanti
  clear heq hanti
  generalize cmpPl (tk A) (tk B) = ab at *
  generalize cmpPl (tk B) (tk A) = ba at *
  go_wp2_with fail
  refine (sign9 ab _).mono ?_
  rintro e w6 ⟨rfl, rfl⟩
  go_wp2_with fail
  refine (sign9 ba _).mono ?_
  rintro e w6 ⟨rfl, rfl⟩
  rw [unhide HAN]
  have b1 : -1 ≤ sgn ba ∧ sgn ba ≤ 1 := by unfold sgn; repeat' split
                                           all_goals omega
  generalize sgn ba = sb at *
  obtain ⟨b1, b2⟩ := b1
  have hne : (-sb != -sb) = false := by simp
  go_wp2_with fail
  refine (same14 a' b' A.length B.length A B w5 (unhide SA) (unhide SB) rA5 rB5).mono ?_
  rintro e w6 ⟨rfl, g6⟩
  have hfin : (ab == 0) = sameT A B := by
    unfold sameT
    rw [Bool.eq_iff_iff, beq_iff_eq, decide_eq_true_iff]
    exact unhide HE
  rw [← hfin]
  clear hfin rA5 rB5
  go_wp2_with fail
  go_ret
  exact ⟨ret_bool (by simp), gw5.trans g6⟩
end Go.Proofs.Qxb6603403a
