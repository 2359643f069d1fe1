import Derived.Test.Qxb6603403aBytes
namespace Go.Proofs.Qxb6603403a
open Go.RowKit

set_option maxHeartbeats 3200000 in
theorem bytes15 (a b c : Option Addr) (ca cb cc : Nat) (A B C : List ByteArray) (n m : Int) (w : World) (ha : A.length ≤ maxLen) (hb : B.length ≤ maxLen) (hc : C.length ≤ maxLen) (hA : Rds w a A) (hB : Rds w b B) (hC : Rds w c C) (mA : ∀ s ∈ A, s.size ≤ maxLen) (mB : ∀ s ∈ B, s.size ≤ maxLen) (mC : ∀ s ∈ C, s.size ≤ maxLen) :
    Calls Try.prog 15 #[.slice a A.length ca, .int .u64 n, .int .u64 m, .slice b B.length cb, .slice c C.length cc] w fun e w' => RetB e (Small A ∧ Small B ∧ Small C) ∧ w = w' := by
  unfold maxLen at *
  have HMA := hide mA
  have HMB := hide mB
  have HMC := hide mC
  clear mA mB mC
  generalize hLA : A.length = la at *
  generalize hLB : B.length = lb at *
  generalize hLC : C.length = lc at *
  have HLA := hide hLA
  have HLB := hide hLB
  have HLC := hide hLC
  clear hLA hLB hLC
  by_cases qla : (1048576 : Int) < (la : Int)
  · go_enter Try.func15, Try.ntmps15
    go_wp2_with fail
    go_ret
    exact ⟨RetB.no, rfl⟩
  have dla : decide ((1048576 : Int) < (la : Int)) = false := by simpa using qla
  have qla' : la ≤ 1048576 := by omega
  clear qla
  go_enter Try.func15, Try.ntmps15
  go_wp2_with fail
  go_loop [11, 12] (fun n i => ∃ k : Nat, k ≤ la ∧ i = .int .i64 k ∧ ∃ t : Nat, n = .int .i64 t ∧ t ≤ 1048576 ∧ ∀ j, j < k → (A.getD j ByteArray.empty).size ≤ 1048576) (fun _ i => la - (intOf i).toNat)
  case atStart => exact ⟨0, Nat.zero_le _, rfl, la, by go_num, by omega, fun j hj => by omega⟩
  case round =>
    obtain ⟨kla, hkla, rfl, tla, rfl, htla, hsum⟩ := hrel
    have HS := hide hsum
    clear hsum
    by_cases hltla : kla < la
    · obtain ⟨bb, off, s, rfl, hcs, hs⟩ := hA.at (k := kla) (by rw [unhide HLA]; exact hltla)
      have hsz : s.size ≤ 9223372036854775807 := by rw [hs.out]; exact unhide HMA _ (mem_getD (by rw [unhide HLA]; exact hltla))
      go_wp2_with fail
      · go_ret
        exact ⟨RetB.no, rfl⟩
      · go_ret
        exact ⟨RetB.no, rfl⟩
      · go_round
        case rel =>
          refine ⟨kla + 1, by omega, by go_num, tla + s.size, by go_num, by omega, fun j hj => ?_⟩
          by_cases e : j = kla
          · rw [e, ← hs.out]; omega
          · exact unhide HS j (by omega)
        case measure => simp [intOf]; omega
    · have SA : Hid (Small A) := ⟨by rw [unhide HLA]; exact qla', fun s hs => by
        obtain ⟨j, hj, rfl⟩ := List.getElem_of_mem hs
        have := unhide HS j (by rw [unhide HLA] at hj; omega)
        rwa [List.getD_eq_getElem?_getD, List.getElem?_eq_getElem hj] at this⟩
      clear HS hA
      by_cases qlb : (1048576 : Int) < (lb : Int)
      · go_wp2_with fail
        go_ret
        exact ⟨RetB.no, rfl⟩
      have dlb : decide ((1048576 : Int) < (lb : Int)) = false := by simpa using qlb
      have qlb' : lb ≤ 1048576 := by omega
      clear qlb
      by_cases qtlb : (1048576 : Int) < (tla : Int) + (lb : Int)
      · go_wp2_with fail
        go_ret
        exact ⟨RetB.no, rfl⟩
      have dtlb : decide ((1048576 : Int) < (tla : Int) + (lb : Int)) = false := by simpa using qtlb
      have etlb : tla + lb ≤ 1048576 := by omega
      clear qtlb
      go_wp2_with fail
      go_loop [11, 13] (fun n i => ∃ k : Nat, k ≤ lb ∧ i = .int .i64 k ∧ ∃ t : Nat, n = .int .i64 t ∧ t ≤ 1048576 ∧ ∀ j, j < k → (B.getD j ByteArray.empty).size ≤ 1048576) (fun _ i => lb - (intOf i).toNat)
      case atStart => exact ⟨0, Nat.zero_le _, rfl, tla + lb, by go_num, etlb, fun j hj => by omega⟩
      case round =>
        obtain ⟨klb, hklb, rfl, tlb, rfl, htlb, hsum⟩ := hrel
        have HS := hide hsum
        clear hsum
        by_cases hltlb : klb < lb
        · obtain ⟨bb, off, s, rfl, hcs, hs⟩ := hB.at (k := klb) (by rw [unhide HLB]; exact hltlb)
          have hsz : s.size ≤ 9223372036854775807 := by rw [hs.out]; exact unhide HMB _ (mem_getD (by rw [unhide HLB]; exact hltlb))
          go_wp2_with fail
          · go_ret
            exact ⟨RetB.no, rfl⟩
          · go_ret
            exact ⟨RetB.no, rfl⟩
          · go_round
            case rel =>
              refine ⟨klb + 1, by omega, by go_num, tlb + s.size, by go_num, by omega, fun j hj => ?_⟩
              by_cases e : j = klb
              · rw [e, ← hs.out]; omega
              · exact unhide HS j (by omega)
            case measure => simp [intOf]; omega
        · have SB : Hid (Small B) := ⟨by rw [unhide HLB]; exact qlb', fun s hs => by
            obtain ⟨j, hj, rfl⟩ := List.getElem_of_mem hs
            have := unhide HS j (by rw [unhide HLB] at hj; omega)
            rwa [List.getD_eq_getElem?_getD, List.getElem?_eq_getElem hj] at this⟩
          clear HS hB
          by_cases qlc : (1048576 : Int) < (lc : Int)
          · go_wp2_with fail
            go_ret
            exact ⟨RetB.no, rfl⟩
          have dlc : decide ((1048576 : Int) < (lc : Int)) = false := by simpa using qlc
          have qlc' : lc ≤ 1048576 := by omega
          clear qlc
          by_cases qtlc : (1048576 : Int) < (tlb : Int) + (lc : Int)
          · go_wp2_with fail
            go_ret
            exact ⟨RetB.no, rfl⟩
          have dtlc : decide ((1048576 : Int) < (tlb : Int) + (lc : Int)) = false := by simpa using qtlc
          have etlc : tlb + lc ≤ 1048576 := by omega
          clear qtlc
          go_wp2_with fail
          go_loop [11, 14] (fun n i => ∃ k : Nat, k ≤ lc ∧ i = .int .i64 k ∧ ∃ t : Nat, n = .int .i64 t ∧ t ≤ 1048576 ∧ ∀ j, j < k → (C.getD j ByteArray.empty).size ≤ 1048576) (fun _ i => lc - (intOf i).toNat)
          case atStart => exact ⟨0, Nat.zero_le _, rfl, tlb + lc, by go_num, etlc, fun j hj => by omega⟩
          case round =>
            obtain ⟨klc, hklc, rfl, tlc, rfl, htlc, hsum⟩ := hrel
            have HS := hide hsum
            clear hsum
            by_cases hltlc : klc < lc
            · obtain ⟨bb, off, s, rfl, hcs, hs⟩ := hC.at (k := klc) (by rw [unhide HLC]; exact hltlc)
              have hsz : s.size ≤ 9223372036854775807 := by rw [hs.out]; exact unhide HMC _ (mem_getD (by rw [unhide HLC]; exact hltlc))
              go_wp2_with fail
              · go_ret
                exact ⟨RetB.no, rfl⟩
              · go_ret
                exact ⟨RetB.no, rfl⟩
              · go_round
                case rel =>
                  refine ⟨klc + 1, by omega, by go_num, tlc + s.size, by go_num, by omega, fun j hj => ?_⟩
                  by_cases e : j = klc
                  · rw [e, ← hs.out]; omega
                  · exact unhide HS j (by omega)
                case measure => simp [intOf]; omega
            · have SC : Hid (Small C) := ⟨by rw [unhide HLC]; exact qlc', fun s hs => by
                obtain ⟨j, hj, rfl⟩ := List.getElem_of_mem hs
                have := unhide HS j (by rw [unhide HLC] at hj; omega)
                rwa [List.getD_eq_getElem?_getD, List.getElem?_eq_getElem hj] at this⟩
              clear HS hC
              go_wp2_with fail
              go_ret
              exact ⟨RetB.yes ⟨unhide SA, unhide SB, unhide SC⟩, rfl⟩
end Go.Proofs.Qxb6603403a
