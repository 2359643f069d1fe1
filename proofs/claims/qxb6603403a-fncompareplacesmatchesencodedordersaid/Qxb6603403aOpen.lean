import Derived.Test.Qxb6603403aRows
import Derived.Test.Qxb6603403aBytes
import Derived.ProofKit
import Derived.OpenShut
import Derived.ShutString
import Derived.ChangeOld
import Derived.SliceStrings
import Derived.Below
namespace Go.Proofs.Qxb6603403a
open Go.ChangeShapes Go.WideShapes Go.ChangeAt Go.RowKit

theorem own : ownKnob Try.prog.godebug = none := by kernel_rfl
theorem laidOut : laidOutB Try.prog = true := by kernel_rfl
theorem Try.cells9 : Try.prog.cellsOf 9 = 1 := by kernel_rfl

/-- A slice of strings that came in, as the walks read it. -/
theorem open_rds {H : Type} {enc : TypeId × Value → H} {P : Program} {w : World} {base : Nat} {spare : Nat → Bool} {held : Bool} {t e : TypeId} {fuel : Nat} {cs : List Value} {x : DataW H × List MemPlace} (ht : P.underlying t = some (.slice e)) (he : P.underlying e = some .string) (hc : P.cellsOf e = 1)
    (h : DataW.trod enc P w base spare held fuel t cs = some x) :
    ∃ (a : Option Addr) (cap : Nat) (A : List ByteArray), cs = [.slice a A.length cap] ∧ A.length ≤ maxLen ∧ (∀ s ∈ A, s.size ≤ maxLen) ∧ Rds w a A ∧ (a = none → cap = 0) := by
  rcases open_strings ht he hc h with ⟨hcs, _⟩ | ⟨x, l, c, ss, hcs, _, hl, hm, hz, _, hcell, hsz⟩
  · exact ⟨none, 0, [], hcs, Nat.zero_le _, by simp, .inl ⟨rfl, rfl⟩, fun _ => rfl⟩
  · have hlz : l ≤ ss.length := by rw [hz]; split <;> omega
    have hlen : (ss.take l).length = l := by simp; omega
    refine ⟨some x, c, ss.take l, by rw [hlen]; exact hcs, by rw [hlen]; exact Nat.le_trans hl hm, fun s hs => hsz s (List.mem_of_mem_take hs), .inr ⟨x, rfl, fun h0 => ?_⟩, fun h => by cases h⟩
    rw [hlen] at h0
    obtain ⟨b, off, spot⟩ := x
    have hs : spot = none := by simpa [Addr.add] using World.cell?_spot (hcell 0 (by omega))
    subst hs
    refine ⟨b, off, rfl, fun j hj => ?_⟩
    rw [hlen] at hj
    rw [← addp, hcell j (by omega)]
    simp [hj]
end Go.Proofs.Qxb6603403a
