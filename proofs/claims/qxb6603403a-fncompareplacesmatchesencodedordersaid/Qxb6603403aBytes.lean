import Derived.Test.Qxb6603403aSize
namespace Go.Proofs.Qxb6603403a
open Go.RowKit

/-- A list of strings within the laws' bounds. -/
def Small (A : List ByteArray) : Prop := A.length ≤ 1048576 ∧ ∀ s ∈ A, s.size ≤ 1048576

/-- It returned a bool; if true, then P. -/
def RetB (e : Ending) (P : Prop) : Prop := ∃ r : Bool, e = .returned (.bool r) ∧ (r = true → P)
theorem RetB.no {P : Prop} : RetB (.returned (.bool false)) P := ⟨false, rfl, fun h => by cases h⟩
theorem RetB.yes {P : Prop} (h : P) : RetB (.returned (.bool true)) P := ⟨true, rfl, fun _ => h⟩

set_option maxHeartbeats 1600000 in
theorem bytes6 (a b : Option Addr) (ca cb : Nat) (A B : List ByteArray) (w : World) (ha : A.length ≤ maxLen) (hb : B.length ≤ maxLen) (hA : Rds w a A) (hB : Rds w b B) (mA : ∀ s ∈ A, s.size ≤ maxLen) (mB : ∀ s ∈ B, s.size ≤ maxLen) :
    Calls Try.prog 6 #[.slice a A.length ca, .slice b B.length cb] w fun e w' => RetB e (Small A ∧ Small B) ∧ w = w' := by
  unfold maxLen at *
  have HMA := hide mA
  have HMB := hide mB
  clear mA mB
  generalize hLA : A.length = la at *
  generalize hLB : B.length = lb at *
  have HLA := hide hLA
  have HLB := hide hLB
  clear hLA hLB
  by_cases qa : (1048576 : Int) < (la : Int)
  · go_enter Try.func6, Try.ntmps6
    go_wp2_with fail
    go_ret
    exact ⟨RetB.no, rfl⟩
  have da : decide ((1048576 : Int) < (la : Int)) = false := by simpa using qa
  have qa' : la ≤ 1048576 := by omega
  clear qa
  go_enter Try.func6, Try.ntmps6
  go_wp2_with fail
  go_loop [5, 6] (fun n i => ∃ k : Nat, k ≤ la ∧ i = .int .i64 k ∧ ∃ t : Nat, n = .int .i64 t ∧ t ≤ 1048576 ∧ ∀ j, j < k → (A.getD j ByteArray.empty).size ≤ 1048576) (fun _ i => la - (intOf i).toNat)
  case atStart => exact ⟨0, Nat.zero_le _, rfl, la, by go_num, by omega, fun j hj => by omega⟩
  case round =>
    obtain ⟨k, hk, rfl, t, rfl, ht, hsum⟩ := hrel
    have HS := hide hsum
    clear hsum
    by_cases hlt : k < la
    · obtain ⟨bb, off, s, rfl, hcs, hs⟩ := hA.at (k := k) (by rw [unhide HLA]; exact hlt)
      have hsz : s.size ≤ 9223372036854775807 := by rw [hs.out]; exact unhide HMA _ (mem_getD (by rw [unhide HLA]; exact hlt))
      go_wp2_with fail
      · go_ret
        exact ⟨RetB.no, rfl⟩
      · go_ret
        exact ⟨RetB.no, rfl⟩
      · go_round
        case rel =>
          refine ⟨k + 1, by omega, by go_num, t + s.size, by go_num, by omega, fun j hj => ?_⟩
          by_cases e : j = k
          · rw [e, ← hs.out]; omega
          · exact unhide HS j (by omega)
        case measure => simp [intOf]; omega
    · have SA : Hid (Small A) := ⟨by rw [unhide HLA]; exact qa', fun s hs => by
        obtain ⟨j, hj, rfl⟩ := List.getElem_of_mem hs
        have := unhide HS j (by rw [unhide HLA] at hj; omega)
        rwa [List.getD_eq_getElem?_getD, List.getElem?_eq_getElem hj] at this⟩
      clear HS hA
      by_cases qb : (1048576 : Int) < (lb : Int)
      · go_wp2_with fail
        go_ret
        exact ⟨RetB.no, rfl⟩
      have db : decide ((1048576 : Int) < (lb : Int)) = false := by simpa using qb
      have qb' : lb ≤ 1048576 := by omega
      clear qb
      by_cases qt : (1048576 : Int) < (t : Int) + (lb : Int)
      · go_wp2_with fail
        go_ret
        exact ⟨RetB.no, rfl⟩
      have dt : decide ((1048576 : Int) < (t : Int) + (lb : Int)) = false := by simpa using qt
      clear qt
      go_wp2_with fail
      go_loop [5, 7] (fun n i => ∃ k : Nat, k ≤ lb ∧ i = .int .i64 k ∧ ∃ t : Nat, n = .int .i64 t ∧ t ≤ 1048576 ∧ ∀ j, j < k → (B.getD j ByteArray.empty).size ≤ 1048576) (fun _ i => lb - (intOf i).toNat)
      case atStart => exact ⟨0, Nat.zero_le _, rfl, t + lb, by go_num, by simp at dt; omega, fun j hj => by omega⟩
      case round =>
        obtain ⟨k1, hk1, rfl, t1, rfl, ht1, hsum⟩ := hrel
        have HS := hide hsum
        clear hsum
        by_cases hlt1 : k1 < lb
        · obtain ⟨bb, off, s, rfl, hcs, hs⟩ := hB.at (k := k1) (by rw [unhide HLB]; exact hlt1)
          have hsz : s.size ≤ 9223372036854775807 := by rw [hs.out]; exact unhide HMB _ (mem_getD (by rw [unhide HLB]; exact hlt1))
          go_wp2_with fail
          · go_ret
            exact ⟨RetB.no, rfl⟩
          · go_ret
            exact ⟨RetB.no, rfl⟩
          · go_round
            case rel =>
              refine ⟨k1 + 1, by omega, by go_num, t1 + s.size, by go_num, by omega, fun j hj => ?_⟩
              by_cases e : j = k1
              · rw [e, ← hs.out]; omega
              · exact unhide HS j (by omega)
            case measure => simp [intOf]; omega
        · have SB : Hid (Small B) := ⟨by rw [unhide HLB]; exact qb', fun s hs => by
            obtain ⟨j, hj, rfl⟩ := List.getElem_of_mem hs
            have := unhide HS j (by rw [unhide HLB] at hj; omega)
            rwa [List.getD_eq_getElem?_getD, List.getElem?_eq_getElem hj] at this⟩
          clear HS hB
          go_wp2_with fail
          go_ret
          exact ⟨RetB.yes ⟨unhide SA, unhide SB⟩, rfl⟩

set_option maxHeartbeats 1600000 in
theorem bytes13 (a b : Option Addr) (ca cb : Nat) (A B : List ByteArray) (w : World) (ha : A.length ≤ maxLen) (hb : B.length ≤ maxLen) (hA : Rds w a A) (hB : Rds w b B) (mA : ∀ s ∈ A, s.size ≤ maxLen) (mB : ∀ s ∈ B, s.size ≤ maxLen) :
    Calls Try.prog 13 #[.slice a A.length ca, .slice b B.length cb] w fun e w' => RetB e (Small A ∧ Small B) ∧ w = w' := by
  unfold maxLen at *
  have HMA := hide mA
  have HMB := hide mB
  clear mA mB
  generalize hLA : A.length = la at *
  generalize hLB : B.length = lb at *
  have HLA := hide hLA
  have HLB := hide hLB
  clear hLA hLB
  by_cases qa : (1048576 : Int) < (la : Int)
  · go_enter Try.func13, Try.ntmps13
    go_wp2_with fail
    go_ret
    exact ⟨RetB.no, rfl⟩
  have da : decide ((1048576 : Int) < (la : Int)) = false := by simpa using qa
  have qa' : la ≤ 1048576 := by omega
  clear qa
  go_enter Try.func13, Try.ntmps13
  go_wp2_with fail
  go_loop [5, 6] (fun n i => ∃ k : Nat, k ≤ la ∧ i = .int .i64 k ∧ ∃ t : Nat, n = .int .i64 t ∧ t ≤ 1048576 ∧ ∀ j, j < k → (A.getD j ByteArray.empty).size ≤ 1048576) (fun _ i => la - (intOf i).toNat)
  case atStart => exact ⟨0, Nat.zero_le _, rfl, la, by go_num, by omega, fun j hj => by omega⟩
  case round =>
    obtain ⟨k, hk, rfl, t, rfl, ht, hsum⟩ := hrel
    have HS := hide hsum
    clear hsum
    by_cases hlt : k < la
    · obtain ⟨bb, off, s, rfl, hcs, hs⟩ := hA.at (k := k) (by rw [unhide HLA]; exact hlt)
      have hsz : s.size ≤ 9223372036854775807 := by rw [hs.out]; exact unhide HMA _ (mem_getD (by rw [unhide HLA]; exact hlt))
      go_wp2_with fail
      · go_ret
        exact ⟨RetB.no, rfl⟩
      · go_ret
        exact ⟨RetB.no, rfl⟩
      · go_round
        case rel =>
          refine ⟨k + 1, by omega, by go_num, t + s.size, by go_num, by omega, fun j hj => ?_⟩
          by_cases e : j = k
          · rw [e, ← hs.out]; omega
          · exact unhide HS j (by omega)
        case measure => simp [intOf]; omega
    · have SA : Hid (Small A) := ⟨by rw [unhide HLA]; exact qa', fun s hs => by
        obtain ⟨j, hj, rfl⟩ := List.getElem_of_mem hs
        have := unhide HS j (by rw [unhide HLA] at hj; omega)
        rwa [List.getD_eq_getElem?_getD, List.getElem?_eq_getElem hj] at this⟩
      clear HS hA
      by_cases qb : (1048576 : Int) < (lb : Int)
      · go_wp2_with fail
        go_ret
        exact ⟨RetB.no, rfl⟩
      have db : decide ((1048576 : Int) < (lb : Int)) = false := by simpa using qb
      have qb' : lb ≤ 1048576 := by omega
      clear qb
      by_cases qt : (1048576 : Int) < (t : Int) + (lb : Int)
      · go_wp2_with fail
        go_ret
        exact ⟨RetB.no, rfl⟩
      have dt : decide ((1048576 : Int) < (t : Int) + (lb : Int)) = false := by simpa using qt
      clear qt
      go_wp2_with fail
      go_loop [5, 7] (fun n i => ∃ k : Nat, k ≤ lb ∧ i = .int .i64 k ∧ ∃ t : Nat, n = .int .i64 t ∧ t ≤ 1048576 ∧ ∀ j, j < k → (B.getD j ByteArray.empty).size ≤ 1048576) (fun _ i => lb - (intOf i).toNat)
      case atStart => exact ⟨0, Nat.zero_le _, rfl, t + lb, by go_num, by simp at dt; omega, fun j hj => by omega⟩
      case round =>
        obtain ⟨k1, hk1, rfl, t1, rfl, ht1, hsum⟩ := hrel
        have HS := hide hsum
        clear hsum
        by_cases hlt1 : k1 < lb
        · obtain ⟨bb, off, s, rfl, hcs, hs⟩ := hB.at (k := k1) (by rw [unhide HLB]; exact hlt1)
          have hsz : s.size ≤ 9223372036854775807 := by rw [hs.out]; exact unhide HMB _ (mem_getD (by rw [unhide HLB]; exact hlt1))
          go_wp2_with fail
          · go_ret
            exact ⟨RetB.no, rfl⟩
          · go_ret
            exact ⟨RetB.no, rfl⟩
          · go_round
            case rel =>
              refine ⟨k1 + 1, by omega, by go_num, t1 + s.size, by go_num, by omega, fun j hj => ?_⟩
              by_cases e : j = k1
              · rw [e, ← hs.out]; omega
              · exact unhide HS j (by omega)
            case measure => simp [intOf]; omega
        · have SB : Hid (Small B) := ⟨by rw [unhide HLB]; exact qb', fun s hs => by
            obtain ⟨j, hj, rfl⟩ := List.getElem_of_mem hs
            have := unhide HS j (by rw [unhide HLB] at hj; omega)
            rwa [List.getD_eq_getElem?_getD, List.getElem?_eq_getElem hj] at this⟩
          clear HS hB
          go_wp2_with fail
          go_ret
          exact ⟨RetB.yes ⟨unhide SA, unhide SB⟩, rfl⟩

end Go.Proofs.Qxb6603403a
