import Derived.Test.Qxb6603403aProg
import Derived.Test.Qxb6603403aLaws
import Derived.Lib.SliceRun
import Derived.Lib.Bytealg
import Derived.BigQuiet
import Derived.Deep.QuietTactic
namespace Go.Proofs.Qxb6603403a
open Go.RowKit

theorem Try.info9 : (Try.prog.info? 9).map (fun i => (i.zero, i.size, i.bytes)) = some (some (.string ⟨#[]⟩), 1, 16) := by kernel_rfl

/-- A slice of strings as the walk reads it: nil, or a row of strings A. -/
def Rds (w : World) (a : Option Addr) (A : List ByteArray) : Prop :=
  (a = none ∧ A = []) ∨ ∃ x, a = some x ∧ (0 < A.length → ∃ b off, x = ⟨b, off, none⟩ ∧ ∀ j, j < A.length → w.cell? ⟨b, off + j, none⟩ = some (.string (A.getD j ByteArray.empty)))

/-- A slice of strings of the call's own. -/
def Owns (base : Nat) (w : World) (a : Option Addr) (A : List ByteArray) : Prop :=
  (a = none ∧ A = []) ∨ ∃ g, a = some ⟨g, 0, none⟩ ∧ base ≤ g ∧ w.rowIs g 9 A.length (fun j => .string (A.getD j ByteArray.empty))

theorem Owns.rd {base : Nat} {w : World} {a : Option Addr} {A : List ByteArray} (h : Owns base w a A) : Rds w a A := by
  rcases h with h | ⟨g, rfl, _, hr⟩
  · exact .inl h
  · exact .inr ⟨⟨g, 0, none⟩, rfl, fun _ => ⟨g, 0, rfl, fun j hj => by simpa using hr.cell hj⟩⟩

theorem Rds.grown {w w' : World} {a : Option Addr} {A : List ByteArray} (h : Rds w a A) (hg : w.grownBy w' none) : Rds w' a A := by
  rcases h with h | ⟨x, rfl, hx⟩
  · exact .inl h
  · refine .inr ⟨x, rfl, fun h0 => ?_⟩
    obtain ⟨b, off, rfl, hc⟩ := hx h0
    exact ⟨b, off, rfl, fun j hj => hg.cell (hc j hj) (by simp)⟩

theorem Owns.kept0 {base : Nat} {w w' : World} {a : Option Addr} {A : List ByteArray} (h : Owns base w a A) (hg : w.grownBy w' none) : Owns base w' a A := by
  rcases h with h | ⟨g, rfl, hb, hr⟩
  · exact .inl h
  · exact .inr ⟨g, rfl, hb, rowIs_grown hr hg (by simp)⟩

theorem Owns.mono {base base' : Nat} {w : World} {a : Option Addr} {A : List ByteArray} (h : Owns base w a A) (hb : base' ≤ base) : Owns base' w a A := by
  rcases h with h | ⟨g, rfl, hg, hr⟩
  · exact .inl h
  · exact .inr ⟨g, rfl, Nat.le_trans hb hg, hr⟩

/-- The string at place k, under a name of its own, its cell read. -/
theorem Rds.at {w : World} {a : Option Addr} {A : List ByteArray} (h : Rds w a A) {k : Nat} (hk : k < A.length) :
    ∃ b off s, a = some ⟨b, off, none⟩ ∧ w.cell? ⟨b, off + k, none⟩ = some (.string s) ∧ Hid (s = A.getD k ByteArray.empty) := by
  rcases h with ⟨_, rfl⟩ | ⟨x, rfl, hx⟩
  · simp at hk
  · obtain ⟨b, off, rfl, hc⟩ := hx (by omega)
    exact ⟨b, off, _, rfl, hc k hk, rfl⟩

set_option maxHeartbeats 400000 in
theorem clone8 (a : Option Addr) (cap : Nat) (A : List ByteArray) (w : World) (hcap : a = none → cap = 0) (hlen : A.length ≤ 1048576) (h : Rds w a A) :
    Calls Try.prog 8 #[.slice a A.length cap] w fun e w' => ∃ a', e = .returned (.slice a' A.length A.length) ∧ Owns w.heap.size w' a' A ∧ w.grownBy w' none := by
  by_cases hn : a = none
  · subst hn
    obtain rfl := hcap rfl
    rcases h with ⟨_, rfl⟩ | ⟨x, hx, _⟩
    · have hnil := fun wx => Lib.run_eql_slice_nil (P := Try.prog) wx 22 9 none 0 0 0 0 Try.underlying22
      go_enter Try.func8, Try.ntmps8
      go_wp2
      go_ret
      exact ⟨none, rfl, .inl ⟨rfl, rfl⟩, .refl _ _⟩
    · cases hx
  · obtain ⟨x, rfl⟩ : ∃ x, a = some x := by cases a; exact absurd rfl hn; exact ⟨_, rfl⟩
    have hnil := fun wx => Lib.run_eql_slice_nil (P := Try.prog) wx 22 9 (some x) A.length cap 0 0 Try.underlying22
    clear hcap hn
    generalize hL : A.length = len at *
    have HL := hide hL
    clear hL
    go_enter Try.func8, Try.ntmps8
    go_wp2_with (at_make; refine wpList_make_is rfl _ _ 22 rfl 9 (.string ⟨#[]⟩) 16 Try.underlying22 Try.info9 rfl .i64 .i64 _ _ len rfl rfl rfl rfl (by omega) (by omega) ?_; intro w1 hr1 hg1 hs1)
    clear hnil hs1
    go_loopw [4] (fun i wr => ∃ k : Nat, k ≤ len ∧ i = .int .i64 k ∧ wr.rowIs w.heap.size 9 len (fun j => if j < k then .string (A.getD j ByteArray.empty) else .string ⟨#[]⟩) ∧ w.grownBy wr none) (fun i _ => len - (intOf i).toNat)
    case atStart => exact ⟨0, Nat.zero_le _, rfl, hr1.congr (fun i _ => by simp), hg1⟩
    case round =>
      obtain ⟨k, hk, rfl, hra, hgr⟩ := hrel
      clear hr1 hg1
      by_cases hlt : k < len
      · obtain ⟨b, off, s, hx, hcs, hs⟩ := (h.grown hgr).at (k := k) (by rw [unhide HL]; exact hlt)
        have hca := hra.cell hlt
        have hfa := hra.frozen k
        simp only [Nat.lt_irrefl, if_false] at hca
        obtain rfl : x = ⟨b, off, none⟩ := by simpa using hx
        clear hx
        go_wp2
        go_roundw
        case rel =>
          refine ⟨k + 1, by omega, by go_num, (hra.set k _).congr (fun i hi => ?_), hgr.andThen (grown_set _ _ _ _) (by simp)⟩
          by_cases e : i = k
          · subst e; simp [hs.out]
          · simp only [if_neg e]
            by_cases e2 : i < k
            · rw [if_pos e2, if_pos (by omega)]
            · rw [if_neg e2, if_neg (by omega)]
        case measure => simp [intOf]; omega
      · go_wp2
        go_ret
        refine ⟨_, rfl, .inr ⟨_, rfl, Nat.le_refl _, ?_⟩, hgr⟩
        rw [unhide HL]
        exact hra.congr (fun i hi => by rw [if_pos (by omega)])

end Go.Proofs.Qxb6603403a
