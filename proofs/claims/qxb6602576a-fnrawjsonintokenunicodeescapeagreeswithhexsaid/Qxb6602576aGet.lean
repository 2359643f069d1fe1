import Derived.Test.Qxb6602576aNew11
import Derived.BigQuiet
import Derived.Deep.QuietTactic
import Derived.RegionTactic
namespace Go.Proofs.Qxb6602576a
open Go.RowKit

theorem open29 (B : Nat) (a : Option Addr) (l c : Nat) (w : World) (hc : w.cell? ⟨B, 0, none⟩ = some (.slice a l c)) :
    Calls Try.prog 29 #[.pointer (some ⟨B, 0, none⟩)] w fun e w' => e = .returned (.slice a l c) ∧ w = w' := by
  go_enter Try.func29, Try.ntmps29
  go_wp2
  go_ret
  exact ⟨rfl, rfl⟩

theorem next30 (B : Nat) (n : Int) (w : World) (hc : w.cell? ⟨B, 1, none⟩ = some (.int .u8 n)) :
    Calls Try.prog 30 #[.pointer (some ⟨B, 0, none⟩)] w fun e w' => e = .returned (.int .u8 n) ∧ w = w' := by
  go_enter Try.func30, Try.ntmps30
  go_wp2
  go_ret
  exact ⟨rfl, rfl⟩

theorem wordB14 (B : Nat) (s : ByteArray) (w : World) (hc : w.cell? ⟨B, 2, none⟩ = some (.string s)) :
    Calls Try.prog 14 #[.pointer (some ⟨B, 0, none⟩)] w fun e w' => e = .returned (.string s) ∧ w = w' := by
  go_enter Try.func14, Try.ntmps14
  go_wp2
  go_ret
  exact ⟨rfl, rfl⟩

theorem hexes19 (B : Nat) (n : Int) (w : World) (hc : w.cell? ⟨B, 3, none⟩ = some (.int .i64 n)) :
    Calls Try.prog 19 #[.pointer (some ⟨B, 0, none⟩)] w fun e w' => e = .returned (.int .i64 n) ∧ w = w' := by
  go_enter Try.func19, Try.ntmps19
  go_wp2
  go_ret
  exact ⟨rfl, rfl⟩

theorem name31 (B : Nat) (b : Bool) (w : World) (hc : w.cell? ⟨B, 4, none⟩ = some (.bool b)) :
    Calls Try.prog 31 #[.pointer (some ⟨B, 0, none⟩)] w fun e w' => e = .returned (.bool b) ∧ w = w' := by
  go_enter Try.func31, Try.ntmps31
  go_wp2
  go_ret
  exact ⟨rfl, rfl⟩

theorem checked32 (B : Nat) (n : Int) (w : World) (hc : w.cell? ⟨B, 5, none⟩ = some (.int .i64 n)) :
    Calls Try.prog 32 #[.pointer (some ⟨B, 0, none⟩)] w fun e w' => e = .returned (.int .i64 n) ∧ w = w' := by
  go_enter Try.func32, Try.ntmps32
  go_wp2
  go_ret
  exact ⟨rfl, rfl⟩

theorem at33 (B : Nat) (n : Int) (w : World) (hc : w.cell? ⟨B, 6, none⟩ = some (.int .i64 n)) :
    Calls Try.prog 33 #[.pointer (some ⟨B, 0, none⟩)] w fun e w' => e = .returned (.int .i64 n) ∧ w = w' := by
  go_enter Try.func33, Try.ntmps33
  go_wp2
  go_ret
  exact ⟨rfl, rfl⟩

theorem has34 (B : Nat) (np : Option Addr) (w : World) (hc : w.cell? ⟨B, 7, none⟩ = some (.pointer np)) :
    Calls Try.prog 34 #[.pointer (some ⟨B, 0, none⟩)] w fun e w' => e = .returned (.bool np.isSome) ∧ w = w' := by
  go_enter Try.func34, Try.ntmps34
  go_wp2
  go_ret
  exact ⟨rfl, rfl⟩

theorem starts36 (B N : Nat) (a : Option Addr) (l c : Nat) (w : World) (hc : w.cell? ⟨B, 7, none⟩ = some (.pointer (some ⟨N, 0, none⟩))) (hn : w.cell? ⟨N, 0, none⟩ = some (.slice a l c)) :
    Calls Try.prog 36 #[.pointer (some ⟨B, 0, none⟩)] w fun e w' => e = .returned (.slice a l c) ∧ w = w' := by
  go_enter Try.func36, Try.ntmps36
  go_wp2
  go_ret
  exact ⟨rfl, rfl⟩

theorem least39 (B N : Nat) (n : Int) (w : World) (hc : w.cell? ⟨B, 7, none⟩ = some (.pointer (some ⟨N, 0, none⟩))) (hn : w.cell? ⟨N, 2, none⟩ = some (.int .i64 n)) :
    Calls Try.prog 39 #[.pointer (some ⟨B, 0, none⟩)] w fun e w' => e = .returned (.int .i64 n) ∧ w = w' := by
  go_enter Try.func39, Try.ntmps39
  go_wp2
  go_ret
  exact ⟨rfl, rfl⟩

theorem rd_cap {k : IntKind} {w : World} {a : Option Addr} {len len' : Nat} {z : Nat → Int} (h : Rd k w a len z) (hl : len' ≤ len) : Rd k w a len' z := by
  rcases h with ⟨h1, h2⟩ | ⟨x, rfl, hx⟩
  · exact .inl ⟨h1, by omega⟩
  · refine .inr ⟨x, rfl, fun h0 => ?_⟩
    obtain ⟨b, off, rfl, hc⟩ := hx (by omega)
    exact ⟨b, off, rfl, fun j hj => hc j (by omega)⟩

set_option maxHeartbeats 800000 in
theorem eq28 (a b : Option Addr) (l ca cb : Nat) (z : Nat → Int) (w : World) (hl : l ≤ 1048576) (ra : Rd .u8 w a l z) (rb : Rd .u8 w b l z) :
    Calls Try.prog 28 #[.slice a l ca, .slice b l cb] w fun e w' => e = .returned (.bool true) ∧ w.grownBy w' none := by
  go_enter Try.func28, Try.ntmps28
  go_wp2_with fail
  go_loopw [5] (fun i wr => ∃ k : Nat, k ≤ l ∧ i = .int .i64 k ∧ w.grownBy wr none) (fun i _ => l - (intOf i).toNat)
  case atStart => exact ⟨0, Nat.zero_le _, rfl, World.grownBy.refl _ _⟩
  case round =>
    obtain ⟨k, hk, rfl, hg⟩ := hrel
    by_cases hlt : k < l
    · have ra' := ra.grown hg
      have rb' := rb.grown hg
      clear ra rb
      rcases ra' with ⟨_, h⟩ | ⟨x, rfl, hx⟩
      · omega
      rcases rb' with ⟨_, h⟩ | ⟨y, rfl, hy⟩
      · omega
      obtain ⟨b1, o1, rfl, hx'⟩ := hx (by omega)
      obtain ⟨b2, o2, rfl, hy'⟩ := hy (by omega)
      have c1 := hx' k hlt
      have c2 := hy' k hlt
      have hlti : (k : Int) < (l : Int) := by omega
      clear hx hy hx' hy'
      go_wp2_with fail
      go_quiet (fail)
      go_wp2_with fail
      go_roundw
      case rel => exact ⟨k + 1, by omega, by go_num, grown_drewN hg _⟩
      case measure => simp [intOf]; omega
    · go_wp2_with fail
      go_ret
      exact ⟨rfl, hg⟩

set_option maxHeartbeats 800000 in
theorem eq35 (a b : Option Addr) (l ca cb : Nat) (z : Nat → Int) (w : World) (hl : l ≤ 1048576) (ra : Rd .i64 w a l z) (rb : Rd .i64 w b l z) :
    Calls Try.prog 35 #[.slice a l ca, .slice b l cb] w fun e w' => e = .returned (.bool true) ∧ w.grownBy w' none := by
  go_enter Try.func35, Try.ntmps35
  go_wp2_with fail
  go_loopw [5] (fun i wr => ∃ k : Nat, k ≤ l ∧ i = .int .i64 k ∧ w.grownBy wr none) (fun i _ => l - (intOf i).toNat)
  case atStart => exact ⟨0, Nat.zero_le _, rfl, World.grownBy.refl _ _⟩
  case round =>
    obtain ⟨k, hk, rfl, hg⟩ := hrel
    by_cases hlt : k < l
    · have ra' := ra.grown hg
      have rb' := rb.grown hg
      clear ra rb
      rcases ra' with ⟨_, h⟩ | ⟨x, rfl, hx⟩
      · omega
      rcases rb' with ⟨_, h⟩ | ⟨y, rfl, hy⟩
      · omega
      obtain ⟨b1, o1, rfl, hx'⟩ := hx (by omega)
      obtain ⟨b2, o2, rfl, hy'⟩ := hy (by omega)
      have c1 := hx' k hlt
      have c2 := hy' k hlt
      have hlti : (k : Int) < (l : Int) := by omega
      clear hx hy hx' hy'
      go_wp2_with fail
      go_quiet (fail)
      go_wp2_with fail
      go_roundw
      case rel => exact ⟨k + 1, by omega, by go_num, grown_drewN hg _⟩
      case measure => simp [intOf]; omega
    · go_wp2_with fail
      go_ret
      exact ⟨rfl, hg⟩

end Go.Proofs.Qxb6602576a
