import Derived.Test.Qxb6603403aBytes
import Derived.Deep.RegionHeld3
import Derived.Deep.DrawnRows
namespace Go.Proofs.Qxb6603403a
open Go.RowKit
attribute [local go_sem ↓] Go.wp_at_zero Go.wp_at_succ

/-- Nothing but digits. -/
def idx (l : List UInt8) : Bool := l.all fun c => decide (48 ≤ c.toNat) && decide (c.toNat ≤ 57)

/-- comparePlaces, on lists of tokens. -/
def cmpPl : List (List UInt8) → List (List UInt8) → Int
  | [], B => -(B.length : Int)
  | A, [] => A.length
  | x :: A, y :: B => if idx x != idx y then (if idx x then -1 else 1) else if idx x = true ∧ x.length ≠ y.length then (x.length : Int) - y.length else if Lib.compareBytes x y ≠ 0 then Lib.compareBytes x y else cmpPl A B

theorem cmpPl_nil_right (A : List (List UInt8)) : cmpPl A [] = A.length := by cases A <;> simp [cmpPl]

def tk (A : List ByteArray) : List (List UInt8) := A.map (·.data.toList)

set_option maxHeartbeats 1000000 in
set_option maxRecDepth 100000 in
theorem compare22 (a b : ByteArray) (w : World) :
    Calls Try.prog 22 #[.string a, .string b] w fun e w' => e = .returned (.int .i64 (Lib.compareBytes a.data.toList b.data.toList)) ∧ w = w' := by
  go_enter Try.func22, Try.ntmps22
  go_wp2
  rw [run_callFunc_extern Try.func23 (by kernel_rfl) (by kernel_rfl) (by kernel_rfl) (e := Extern.BytealgCompare.compare) (by kernel_rfl), Lib.run_compareString]
  simp only [Result.andThen]
  rw [Oper.upon_value]
  go_wp2
  go_ret
  exact ⟨rfl, rfl⟩

theorem compare21 (a b : ByteArray) (w : World) :
    Calls Try.prog 21 #[.string a, .string b] w fun e w' => e = .returned (.int .i64 (Lib.compareBytes a.data.toList b.data.toList)) ∧ w = w' := by
  go_enter Try.func21, Try.ntmps21
  go_wp2_with (go_at_call 22; refine (compare22 _ _ _).mono ?_; rintro e w1 ⟨rfl, rfl⟩)
  go_ret
  exact ⟨rfl, rfl⟩

theorem idx_take (s : ByteArray) (k : Nat) (hk : k < s.size) : idx (s.data.toList.take (k + 1)) = (idx (s.data.toList.take k) && (decide (48 ≤ (s[k]'hk).toNat) && decide ((s[k]'hk).toNat ≤ 57))) := by
  have : s.data.toList.take (k + 1) = s.data.toList.take k ++ [s[k]] := by
    rw [List.take_succ_eq_append_getElem (by simpa using hk)]; rfl
  unfold idx
  rw [this, List.all_append]
  simp

theorem idx_no (s : ByteArray) (k : Nat) (hk : k < s.size) (h : (s[k]'hk).toNat < 48 ∨ 57 < (s[k]'hk).toNat) : idx s.data.toList = false := by
  unfold idx
  rw [List.all_eq_false]
  refine ⟨s[k], ?_, ?_⟩
  · exact List.getElem_mem (l := s.data.toList) (n := k) (by simpa using hk)
  · simp; omega

set_option maxHeartbeats 400000 in
theorem index20 (s : ByteArray) (w : World) (hs : s.size ≤ 1048576) :
    Calls Try.prog 20 #[.string s] w fun e w' => e = .returned (.bool (idx s.data.toList)) ∧ w = w' := by
  go_enter Try.func20, Try.ntmps20
  go_wp2_with fail
  go_loop [3] (fun i => ∃ k : Nat, k ≤ s.size ∧ i = .int .i64 k ∧ idx (s.data.toList.take k) = true) (fun i => s.size - (intOf i).toNat)
  case atStart => exact ⟨0, Nat.zero_le _, rfl, rfl⟩
  case round =>
    obtain ⟨k, hk, rfl, hi⟩ := hrel
    have HI := hide hi
    clear hi
    by_cases hlt : k < s.size
    · have hn := idx_no s k hlt
      have ht := idx_take s k hlt
      have HN := hide hn
      have HT := hide ht
      clear hn ht
      go_wp2_with fail
      · go_ret
        exact ⟨ret_bool (unhide HN (by omega)).symm, rfl⟩
      · go_round
        case rel =>
          refine ⟨k + 1, by omega, by go_num, ?_⟩
          rw [unhide HT, unhide HI]
          simp
          omega
        case measure => simp [intOf]; omega
      · go_ret
        exact ⟨ret_bool (unhide HN (by omega)).symm, rfl⟩
    · have hi := unhide HI
      rw [List.take_of_length_le (show s.data.toList.length ≤ k by have : s.data.toList.length = s.size := rfl; omega)] at hi
      have HI' := hide hi
      clear hi HI
      go_wp2_with fail
      go_ret
      exact ⟨ret_bool (unhide HI').symm, rfl⟩

theorem tk_drop (A : List ByteArray) (k : Nat) (hk : k < A.length) : (tk A).drop k = (A.getD k ByteArray.empty).data.toList :: (tk A).drop (k + 1) := by
  unfold tk
  rw [List.drop_eq_getElem_cons (by simpa using hk), List.getD_eq_getElem?_getD, List.getElem?_eq_getElem hk]
  simp

/-- One round of comparePlaces. -/
theorem cmpPl_step (A B : List ByteArray) (k : Nat) (ha : k < A.length) (hb : k < B.length) (x y : ByteArray) (hx : x = A.getD k ByteArray.empty) (hy : y = B.getD k ByteArray.empty) :
    cmpPl ((tk A).drop k) ((tk B).drop k) = if idx x.data.toList != idx y.data.toList then (if idx x.data.toList then -1 else 1) else if idx x.data.toList = true ∧ x.size ≠ y.size then (x.size : Int) - y.size else if Lib.compareBytes x.data.toList y.data.toList ≠ 0 then Lib.compareBytes x.data.toList y.data.toList else cmpPl ((tk A).drop (k + 1)) ((tk B).drop (k + 1)) := by
  rw [tk_drop A k ha, tk_drop B k hb, ← hx, ← hy]
  rfl

theorem cmpPl_done (A B : List ByteArray) (k : Nat) (h : A.length ≤ k ∨ B.length ≤ k) (ha : k ≤ A.length) (hb : k ≤ B.length) : cmpPl ((tk A).drop k) ((tk B).drop k) = (A.length : Int) - B.length := by
  have la : ((tk A).drop k).length = A.length - k := by simp [tk]
  have lb : ((tk B).drop k).length = B.length - k := by simp [tk]
  rcases h with h | h
  · have : (tk A).drop k = [] := List.drop_eq_nil_of_le (by simpa [tk] using h)
    rw [this]
    show -(((tk B).drop k).length : Int) = _
    rw [lb]; omega
  · have : (tk B).drop k = [] := List.drop_eq_nil_of_le (by simpa [tk] using h)
    rw [this, cmpPl_nil_right, la]; omega

set_option maxRecDepth 100000 in
set_option maxHeartbeats 3200000 in
theorem places18 (a b : Option Addr) (ca cb : Nat) (A B : List ByteArray) (w : World) (sA : Small A) (sB : Small B) (hA : Rds w a A) (hB : Rds w b B) :
    Calls Try.prog 18 #[.slice a A.length ca, .slice b B.length cb] w fun e w' => e = .returned (.int .i64 (cmpPl (tk A) (tk B))) ∧ w.grownBy w' none := by
  obtain ⟨la', mA⟩ := sA
  obtain ⟨lb', mB⟩ := sB
  have HSTEP := hide (cmpPl_step A B)
  have HDONE := hide (cmpPl_done A B)
  have HMA := hide mA
  have HMB := hide mB
  clear mA mB
  generalize hLA : A.length = la at *
  generalize hLB : B.length = lb at *
  have HLA := hide hLA
  have HLB := hide hLB
  clear hLA hLB
  generalize hR : cmpPl (tk A) (tk B) = R
  have HR := hide hR
  clear hR
  go_enter Try.func18, Try.ntmps18
  go_wp2_with fail
  go_loopw [5] (fun i wr => ∃ k : Nat, k ≤ la ∧ k ≤ lb ∧ i = .int .i64 k ∧ w.grownBy wr none ∧ cmpPl ((tk A).drop k) ((tk B).drop k) = R) (fun i _ => la - (intOf i).toNat)
  case atStart => exact ⟨0, Nat.zero_le _, Nat.zero_le _, rfl, World.grownBy.refl _ _, unhide HR⟩
  case round =>
    obtain ⟨k, hka, hkb, rfl, hg, hval⟩ := hrel
    have HV := hide hval
    clear hval
    by_cases hlt : k < la ∧ k < lb
    · obtain ⟨h1, h2⟩ := hlt
      obtain ⟨b1, o1, x, rfl, cx, hx⟩ := (hA.grown hg).at (k := k) (by rw [unhide HLA]; exact h1)
      obtain ⟨b2, o2, y, rfl, cy, hy⟩ := (hB.grown hg).at (k := k) (by rw [unhide HLB]; exact h2)
      have szx : x.size ≤ 1048576 := by rw [hx.out]; exact unhide HMA _ (mem_getD (by rw [unhide HLA]; exact h1))
      have szy : y.size ≤ 1048576 := by rw [hy.out]; exact unhide HMB _ (mem_getD (by rw [unhide HLB]; exact h2))
      have hst := unhide HSTEP k h1 h2 x y hx.out hy.out
      rw [unhide HV] at hst
      have HST := hide hst
      have q1 : (k : Int) < (la : Int) := by omega
      have q2 : (k : Int) < (lb : Int) := by omega
      have q0 : (0 : Int) ≤ (k : Int) := by omega
      clear hst hA hB
      go_wp2_with fail
      go_region_held3 (fun w' => w'.cell? ⟨b1, o1 + k, none⟩ = some (.string x) ∧ w'.cell? ⟨b2, o2 + k, none⟩ = some (.string y))
        (go_keep)
        (first
          | (go_at_call_of 20 (Value.string x); refine (index20 x _ szx).mono ?_; rintro e w1 ⟨rfl, rfl⟩)
          | (go_at_call_of 20 (Value.string y); refine (index20 y _ szy).mono ?_; rintro e w1 ⟨rfl, rfl⟩))
      cases ix : idx x.data.toList <;> cases iy : idx y.data.toList
      · -- neither is an index
        have hst : R = if Lib.compareBytes x.data.toList y.data.toList ≠ 0 then Lib.compareBytes x.data.toList y.data.toList else cmpPl ((tk A).drop (k + 1)) ((tk B).drop (k + 1)) := by
          have := unhide HST
          rw [ix, iy] at this
          simpa using this
        have HST' := hide hst
        clear hst
        go_wp2_with fail
        go_quiet (fail)
        go_wp2_with fail
        go_region_held3 (fun w' => w'.cell? ⟨b1, o1 + k, none⟩ = some (.string x) ∧ w'.cell? ⟨b2, o2 + k, none⟩ = some (.string y))
          (go_keep)
          ((go_at_call 21; refine (compare21 x y _).mono ?_; rintro e w1 ⟨rfl, rfl⟩))
        by_cases hc : Lib.compareBytes x.data.toList y.data.toList = 0
        · have hc' : (Lib.compareBytes x.data.toList y.data.toList != 0) = false := by simpa using hc
          have hR : cmpPl ((tk A).drop (k + 1)) ((tk B).drop (k + 1)) = R := by
            have := unhide HST'
            rw [if_neg (by simpa using hc)] at this
            exact this.symm
          have HR' := hide hR
          clear hR hc HST' HST
          go_wp2_with fail
          go_roundw
          case rel => exact ⟨k + 1, by omega, by omega, by go_num, (by repeat (first | exact hg | refine grown_drew ?_ | refine grown_drewN ?_ _)), unhide HR'⟩
          case measure => simp [intOf]; omega
        · have hc' : (Lib.compareBytes x.data.toList y.data.toList != 0) = true := by simpa using hc
          have hR : Lib.compareBytes x.data.toList y.data.toList = R := by
            have := unhide HST'
            rw [if_pos hc] at this
            exact this.symm
          have HR' := hide hR
          clear hR hc HST' HST
          go_wp2_with fail
          go_ret
          exact ⟨ret_int (unhide HR'), (by repeat (first | exact hg | refine grown_drew ?_ | refine grown_drewN ?_ _))⟩
      · -- the second alone
        have hst : R = 1 := by
          have := unhide HST
          rw [ix, iy] at this
          simpa using this
        have HST' := hide hst
        clear hst
        go_wp2_with fail
        go_ret
        exact ⟨ret_int (unhide HST').symm, grown_drew hg⟩
      · have hst : R = -1 := by
          have := unhide HST
          rw [ix, iy] at this
          simpa using this
        have HST' := hide hst
        clear hst
        go_wp2_with fail
        go_ret
        exact ⟨ret_int (unhide HST').symm, grown_drew hg⟩
      · by_cases hl : x.size = y.size
        · have hst : R = if Lib.compareBytes x.data.toList y.data.toList ≠ 0 then Lib.compareBytes x.data.toList y.data.toList else cmpPl ((tk A).drop (k + 1)) ((tk B).drop (k + 1)) := by
            have := unhide HST
            rw [ix, iy] at this
            simpa [hl] using this
          have HST' := hide hst
          have hl' : ((x.size : Int) != (y.size : Int)) = false := by simp [hl]
          clear hst hl
          go_wp2_with fail
          go_quiet (fail)
          go_wp2_with fail
          go_region_held3 (fun w' => w'.cell? ⟨b1, o1 + k, none⟩ = some (.string x) ∧ w'.cell? ⟨b2, o2 + k, none⟩ = some (.string y))
            (go_keep)
            ((go_at_call 21; refine (compare21 x y _).mono ?_; rintro e w1 ⟨rfl, rfl⟩))
          by_cases hc : Lib.compareBytes x.data.toList y.data.toList = 0
          · have hc' : (Lib.compareBytes x.data.toList y.data.toList != 0) = false := by simpa using hc
            have hR : cmpPl ((tk A).drop (k + 1)) ((tk B).drop (k + 1)) = R := by
              have := unhide HST'
              rw [if_neg (by simpa using hc)] at this
              exact this.symm
            have HR' := hide hR
            clear hR hc HST' HST
            go_wp2_with fail
            go_roundw
            case rel => exact ⟨k + 1, by omega, by omega, by go_num, (by repeat (first | exact hg | refine grown_drew ?_ | refine grown_drewN ?_ _)), unhide HR'⟩
            case measure => simp [intOf]; omega
          · have hc' : (Lib.compareBytes x.data.toList y.data.toList != 0) = true := by simpa using hc
            have hR : Lib.compareBytes x.data.toList y.data.toList = R := by
              have := unhide HST'
              rw [if_pos hc] at this
              exact this.symm
            have HR' := hide hR
            clear hR hc HST' HST
            go_wp2_with fail
            go_ret
            exact ⟨ret_int (unhide HR'), (by repeat (first | exact hg | refine grown_drew ?_ | refine grown_drewN ?_ _))⟩
        · have hst : R = (x.size : Int) - y.size := by
            have := unhide HST
            rw [ix, iy] at this
            simpa [hl] using this
          have HST' := hide hst
          have hl' : ((x.size : Int) != (y.size : Int)) = true := by simpa using (fun h => hl (by omega))
          clear hst hl
          go_wp2_with fail
          go_quiet (fail)
          go_wp2_with fail
          go_quiet (fail)
          go_wp2_with fail
          go_ret
          exact ⟨ret_int (unhide HST').symm, (by repeat (first | exact hg | refine grown_drew ?_ | refine grown_drewN ?_ _))⟩
    · have hd : R = (la : Int) - lb := by
        rw [← unhide HV]
        exact unhide HDONE k (by omega) hka hkb
      have HD := hide hd
      clear hd hA hB
      by_cases h1 : k < la
      · have h2 : ¬ (k : Int) < (lb : Int) := by omega
        go_wp2_with fail
        go_ret
        exact ⟨ret_int (unhide HD).symm, hg⟩
      · have h1' : ¬ (k : Int) < (la : Int) := by omega
        go_wp2_with fail
        go_ret
        exact ⟨ret_int (unhide HD).symm, hg⟩
end Go.Proofs.Qxb6603403a
