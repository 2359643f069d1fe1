import Derived.Test.Qxb6603403aSame
namespace Go.Proofs.Qxb6603403a
open Go.RowKit

def sv (L : List ByteArray) : List Value := L.map Value.string

theorem sv_snoc (L : List ByteArray) (s : ByteArray) : sv (L ++ [s]) = sv L ++ [.string s] := by simp [sv]

/-- A full row of strings, owned. -/
theorem owns_of_row {w : World} {base g : Nat} {L : List ByteArray} (h : w.ownsRow base 9 1 (.slice (some ⟨g, 0, none⟩) L.length L.length) L.length (sv L)) : Owns base w (some ⟨g, 0, none⟩) L := by
  rcases h.2 with ⟨h, _⟩ | ⟨g', cap, cur, hv, hb, hcur, _, _, hsz, htk⟩
  · cases h
  simp at hv
  obtain ⟨rfl, rfl⟩ := hv
  refine .inr ⟨g, rfl, hb, cur, hcur, by simpa using hsz, fun i hi => ?_⟩
  have e := congrArg (fun l => l[i]?) htk
  simp only [List.getElem?_take, sv, List.getElem?_map] at e
  rw [if_pos (by omega), List.getElem?_eq_getElem hi] at e
  show cur[i]? = some (.string (L.getD i ByteArray.empty))
  rw [List.getD_eq_getElem?_getD, List.getElem?_eq_getElem hi]
  simpa using e

set_option maxRecDepth 100000 in
set_option maxHeartbeats 1600000 in
theorem splice16 (a b : Option Addr) (ca cb : Nat) (A B : List ByteArray) (m : ByteArray) (w : World) (sA : Small A) (sB : Small B) (hA : Rds w a A) (hB : Rds w b B) :
    Calls Try.prog 16 #[.slice a A.length ca, .string m, .slice b B.length cb] w fun e w' => ∃ g, e = .returned (.slice (some ⟨g, 0, none⟩) (A ++ m :: B).length (A ++ m :: B).length) ∧ Owns w.heap.size w' (some ⟨g, 0, none⟩) (A ++ m :: B) ∧ w.grownBy w' none := by
  obtain ⟨la', _⟩ := sA
  obtain ⟨lb', _⟩ := sB
  obtain ⟨i0, hi0, hz0, hz1, hz2⟩ := info_parts Try.info9
  have TA := hide (take_succ_getD A)
  have TB := hide (take_succ_getD B)
  have hLen : (A ++ m :: B).length = A.length + 1 + B.length := by simp; omega
  have FA : Hid (A.take A.length = A) := List.take_length
  have FB : Hid (B.take B.length = B) := List.take_length
  have OW := hide (fun (W : World) => @owns_of_row W w.heap.size w.heap.size (A ++ m :: B))
  rw [hLen] at OW ⊢
  clear hLen
  generalize hLA : A.length = la at *
  generalize hLB : B.length = lb at *
  have HLA := hide hLA
  have HLB := hide hLB
  clear hLA hLB
  go_enter Try.func16, Try.ntmps16
  go_wp2_with (at_make; refine wpList_make_own _ rfl _ _ 22 rfl w.heap.size 9 i0 (.string ⟨#[]⟩) 1 Try.underlying22 hi0 hz0 hz1 .i64 .i64 _ (la + 1 + lb) rfl rfl (by omega) (by rw [hz2]; omega) (by unfold maxLen; omega) (by omega) ?_; intro w1 hown hg1)
  go_loopw [7, 8] (fun v i wr => ∃ k : Nat, k ≤ la ∧ i = .int .i64 k ∧ v = .slice (some ⟨w.heap.size, 0, none⟩) k (la + 1 + lb) ∧ wr.ownsRow w.heap.size 9 1 (.slice (some ⟨w.heap.size, 0, none⟩) k (la + 1 + lb)) k (sv (A.take k)) ∧ w.grownBy wr none) (fun _ i _ => la - (intOf i).toNat)
  case atStart => exact ⟨0, Nat.zero_le _, rfl, rfl, hown, hg1⟩
  case round =>
    obtain ⟨k, hk, rfl, rfl, hor, hgr⟩ := hrel
    clear hown hg1
    by_cases hlt : k < la
    · obtain ⟨b1, o1, s, rfl, hcs, hs⟩ := (hA.grown hgr).at (k := k) (by rw [unhide HLA]; exact hlt)
      have hbl : b1 < wr.heap.size := World.block_lt_of_cell? wr _ hcs
      clear hA
      go_wp2_with (at_builtin; refine wpList_append_fits _ rfl _ _ 22 rfl w.heap.size 9 i0 1 Try.underlying22 hi0 hz1 w.heap.size k (la + 1 + lb) _ rfl (hor.alloc _) ⟨wr.heap.size, 0, none⟩ 1 1 [.string s] rfl rfl (cell_one_new _ _ _) (by simp [Value.oneCell']) (by omega) ?_; intro w2 hor2 hg2)
      have R : w.grownBy w2 none := (hgr.trans (World.grownBy_alloc wr _ none)).andThen hg2 (by simp)
      clear hg2 hor
      go_roundw
      case rel =>
        refine ⟨k + 1, by omega, by go_num, rfl, ?_, R⟩
        rw [unhide TA k (by omega), sv_snoc, ← hs.out]
        exact hor2
      case measure => simp [intOf]; omega
    · obtain rfl : k = la := by omega
      clear hA
      go_wp2_with (at_builtin; refine wpList_append_fits _ rfl _ _ 22 rfl w.heap.size 9 i0 1 Try.underlying22 hi0 hz1 w.heap.size k (k + 1 + lb) _ rfl (hor.alloc _) ⟨wr.heap.size, 0, none⟩ 1 1 [.string m] rfl rfl (cell_one_new _ _ _) (by simp [Value.oneCell']) (by omega) ?_; intro w2 hor2 hg2)
      have R : w.grownBy w2 none := (hgr.trans (World.grownBy_alloc wr _ none)).andThen hg2 (by simp)
      have HO : Hid (w2.ownsRow w.heap.size 9 1 (.slice (some ⟨w.heap.size, 0, none⟩) (k + 1) (k + 1 + lb)) (k + 1) (sv (A ++ [m]))) := by
        rw [unhide FA] at hor2
        rw [sv_snoc]; exact hor2
      clear hg2 hor hor2 hgr
      go_loopw [7, 9] (fun v i wr => ∃ j : Nat, j ≤ lb ∧ i = .int .i64 j ∧ v = .slice (some ⟨w.heap.size, 0, none⟩) (k + 1 + j) (k + 1 + lb) ∧ wr.ownsRow w.heap.size 9 1 (.slice (some ⟨w.heap.size, 0, none⟩) (k + 1 + j) (k + 1 + lb)) (k + 1 + j) (sv (A ++ m :: B.take j)) ∧ w.grownBy wr none) (fun _ i _ => lb - (intOf i).toNat)
      case atStart => exact ⟨0, Nat.zero_le _, rfl, rfl, unhide HO, R⟩
      case round =>
        obtain ⟨j, hj, rfl, rfl, hor, hgr⟩ := hrel
        clear R HO
        by_cases hlt1 : j < lb
        · obtain ⟨b1, o1, s, rfl, hcs, hs⟩ := (hB.grown hgr).at (k := j) (by rw [unhide HLB]; exact hlt1)
          have hbl : b1 < wr.heap.size := World.block_lt_of_cell? wr _ hcs
          clear hB
          go_wp2_with (at_builtin; refine wpList_append_fits _ rfl _ _ 22 rfl w.heap.size 9 i0 1 Try.underlying22 hi0 hz1 w.heap.size (k + 1 + j) (k + 1 + lb) _ rfl (hor.alloc _) ⟨wr.heap.size, 0, none⟩ 1 1 [.string s] rfl rfl (cell_one_new _ _ _) (by simp [Value.oneCell']) (by omega) ?_; intro w3 hor3 hg3)
          have R : w.grownBy w3 none := (hgr.trans (World.grownBy_alloc wr _ none)).andThen hg3 (by simp)
          clear hg3 hor
          go_roundw
          case rel =>
            refine ⟨j + 1, by omega, by go_num, rfl, ?_, R⟩
            rw [unhide TB j (by omega), ← hs.out, show A ++ m :: (B.take j ++ [s]) = (A ++ m :: B.take j) ++ [s] by simp, sv_snoc]
            exact hor3
          case measure => simp [intOf]; omega
        · obtain rfl : j = lb := by omega
          rw [unhide FB] at hor
          have HO := hide (unhide OW wr hor)
          clear hor hB
          go_wp2_with fail
          go_ret
          exact ⟨w.heap.size, rfl, unhide HO, hgr⟩
end Go.Proofs.Qxb6603403a
