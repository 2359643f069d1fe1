import Derived.Test.Qxb6603403aPlain
namespace Go.Proofs.Qxb6603403a
open Go.RowKit

theorem sign9 (x : Int) (w : World) : Calls Try.prog 9 #[.int .i64 x] w fun e w' => e = .returned (.int .i64 (sgn x)) ∧ w = w' := by
  by_cases h1 : x < 0
  · have hs : sgn x = -1 := if_pos h1
    have HS := hide hs
    clear hs
    go_enter Try.func9, Try.ntmps9
    go_wp2
    go_ret
    exact ⟨ret_int (unhide HS).symm, rfl⟩
  · by_cases h2 : 0 < x
    · have hs : sgn x = 1 := by unfold sgn; rw [if_neg h1, if_pos h2]
      have HS := hide hs
      clear hs
      go_enter Try.func9, Try.ntmps9
      go_wp2
      go_ret
      exact ⟨ret_int (unhide HS).symm, rfl⟩
    · have hs : sgn x = 0 := by unfold sgn; rw [if_neg h1, if_neg h2]
      have HS := hide hs
      clear hs
      go_enter Try.func9, Try.ntmps9
      go_wp2
      go_ret
      exact ⟨ret_int (unhide HS).symm, rfl⟩

theorem places10 (a b : Option Addr) (ca cb : Nat) (A B : List ByteArray) (w : World) (sA : Small A) (sB : Small B) (hA : Rds w a A) (hB : Rds w b B) :
    Calls Try.prog 10 #[.slice a A.length ca, .slice b B.length cb] w fun e w' => e = .returned (.int .i64 (cmpPl (tk A) (tk B))) ∧ w.grownBy w' none := by
  go_enter Try.func10, Try.ntmps10
  go_wp2_with fail
  refine (places18 a b ca cb A B w sA sB hA hB).mono ?_
  rintro e w1 ⟨rfl, hg⟩
  go_wp2_with fail
  go_ret
  exact ⟨rfl, hg⟩

theorem str_eq {x y : ByteArray} (h : x.toList = y.toList) : x = y := by
  rw [ByteArray.toList_eq, ByteArray.toList_eq] at h
  obtain ⟨⟨l⟩⟩ := x; obtain ⟨⟨l'⟩⟩ := y; simp at h; rw [h]

def sameT (A B : List ByteArray) : Bool := decide (A = B)

theorem take_succ_getD (A : List ByteArray) (k : Nat) (hk : k < A.length) : A.take (k + 1) = A.take k ++ [A.getD k ByteArray.empty] := by
  rw [List.take_succ_eq_append_getElem hk, List.getD_eq_getElem?_getD, List.getElem?_eq_getElem hk]; rfl

set_option maxHeartbeats 800000 in
theorem same14 (a b : Option Addr) (ca cb : Nat) (A B : List ByteArray) (w : World) (sA : Small A) (sB : Small B) (hA : Rds w a A) (hB : Rds w b B) :
    Calls Try.prog 14 #[.slice a A.length ca, .slice b B.length cb] w fun e w' => e = .returned (.bool (sameT A B)) ∧ w.grownBy w' none := by
  obtain ⟨la', _⟩ := sA
  obtain ⟨lb', _⟩ := sB
  by_cases hl : A.length = B.length
  · have hl' : ((A.length : Int) != (B.length : Int)) = false := by simp [hl]
    have TA := hide (take_succ_getD A)
    have TB := hide (take_succ_getD B)
    have hab : Hid (A.length = B.length) := hl
    clear hl
    generalize hLA : A.length = la at *
    generalize hLB : B.length = lb at *
    have HLA := hide hLA
    have HLB := hide hLB
    clear hLA hLB
    go_enter Try.func14, Try.ntmps14
    go_wp2_with fail
    go_loopw [5] (fun i wr => ∃ k : Nat, k ≤ la ∧ i = .int .i64 k ∧ w.grownBy wr none ∧ A.take k = B.take k) (fun i _ => la - (intOf i).toNat)
    case atStart => exact ⟨0, Nat.zero_le _, rfl, World.grownBy.refl _ _, rfl⟩
    case round =>
      obtain ⟨k, hk, rfl, hg, hv⟩ := hrel
      have HV := hide hv
      clear hv
      by_cases hlt : k < la
      · have hlb : k < lb := by have := unhide hab; omega
        obtain ⟨b1, o1, x, rfl, cx, hx⟩ := (hA.grown hg).at (k := k) (by rw [unhide HLA]; exact hlt)
        obtain ⟨b2, o2, y, rfl, cy, hy⟩ := (hB.grown hg).at (k := k) (by rw [unhide HLB]; exact hlb)
        have q1 : (k : Int) < (la : Int) := by omega
        have q2 : (k : Int) < (lb : Int) := by omega
        clear hA hB
        go_wp2_with fail
        go_quiet (fail)
        go_wp2_with fail
        · have hne : (!x.toList == y.toList) = true := by assumption
          have hs : sameT A B = false := decide_eq_false (fun h => by
            have e : x = y := by rw [hx.out, hy.out, h]
            rw [e] at hne; simp at hne)
          have HS := hide hs
          clear hs
          go_ret
          exact ⟨ret_bool (unhide HS).symm, grown_drewN hg _⟩
        · have he : (!x.toList == y.toList) = false := by assumption
          have e : x = y := str_eq (by simpa using he)
          go_roundw
          case rel =>
            refine ⟨k + 1, by omega, by go_num, grown_drewN hg _, ?_⟩
            rw [unhide TA k (by omega), unhide TB k (by omega), unhide HV, ← hx.out, ← hy.out, e]
          case measure => simp [intOf]; omega
      · have hs : sameT A B = true := decide_eq_true (by
          have := unhide HV
          rwa [List.take_of_length_le (by rw [unhide HLA]; omega), List.take_of_length_le (by rw [unhide HLB]; have := unhide hab; omega)] at this)
        have HS := hide hs
        clear hs hA hB
        go_wp2_with fail
        go_ret
        exact ⟨ret_bool (unhide HS).symm, hg⟩
  · have hl' : ((A.length : Int) != (B.length : Int)) = true := by simpa using (fun h => hl (by omega))
    have hs : sameT A B = false := decide_eq_false (fun h => hl (by rw [h]))
    generalize A.length = la at *
    generalize B.length = lb at *
    clear hA hB hl
    go_enter Try.func14, Try.ntmps14
    go_wp2_with fail
    go_ret
    exact ⟨ret_bool hs.symm, World.grownBy.refl _ _⟩
end Go.Proofs.Qxb6603403a
