import Derived.Test.Qxb6603403aPlainOrd
import Derived.Laws.BytesString
namespace Go.Proofs.Qxb6603403a
open Go.RowKit

def bytesOf (ns : List Int) : ByteArray := ns.foldl (fun r n => r.push (UInt8.ofNat n.toNat)) ByteArray.empty

theorem foldl_push : ∀ (ns : List Int) (s : ByteArray), (ns.foldl (fun r n => r.push (UInt8.ofNat n.toNat)) s).data.toList = s.data.toList ++ ns.map (fun n => UInt8.ofNat n.toNat)
  | [], s => by simp
  | n :: ns, s => by
    rw [List.foldl_cons, foldl_push ns]
    simp [ByteArray.push]

theorem bytesOf_data (ns : List Int) : (bytesOf ns).data.toList = ns.map (fun n => UInt8.ofNat n.toNat) := by
  unfold bytesOf
  rw [foldl_push]
  rfl

theorem conv_string (w : World) (a : Addr) (len cap : Nat) (ns : List Int) (hlen : ns.length = len) (h : ∀ j v, (ns.map (Value.int .u8))[j]? = some v → w.cell? (a.add j) = some v) :
    (convert 29 9 (.slice (some a) len cap)).run Try.prog w = .ok (.string (bytesOf ns)) w := by
  rw [run_convert_bytes_string w 29 9 5 (some a) len cap Try.underlying29 Try.underlying5 Try.underlying9]
  have hl := run_loadCells_list (P := Try.prog) w a (ns.map (Value.int .u8)) h
  rw [List.length_map, hlen] at hl
  exact run_bytesToString w a len cap ns hl

/-- The t-th decimal digit of n, from the right. -/
def dig (n t : Nat) : Int := ((48 + n / 10 ^ t % 10 : Nat) : Int)

/-- The row of digits, j of them laid. -/
def digRow (n p : Nat) (t : Nat) : Value := if p ≤ t then .int .u8 (dig n (19 - t)) else .int .u8 0

theorem dig_list (n : Nat) : ∀ j, ((List.range j).map (fun i => dig n (j - 1 - i))).map (fun x => UInt8.ofNat x.toNat) = dgs 10 48 n j
  | 0 => rfl
  | j + 1 => by
    rw [List.range_succ_eq_map]
    simp only [List.map_cons, List.map_map, dgs]
    have ih := dig_list n j
    rw [List.map_map] at ih
    congr 1
    rw [← ih]
    apply List.map_congr_left
    intro i hi
    have : i < j := by simpa using hi
    simp only [Function.comp]
    rw [show j + 1 - 1 - Nat.succ i = j - 1 - i by omega]

theorem zeros20 : ∀ i, i < 20 → (#[.int .u8 0, .int .u8 0, .int .u8 0, .int .u8 0, .int .u8 0, .int .u8 0, .int .u8 0, .int .u8 0, .int .u8 0, .int .u8 0, .int .u8 0, .int .u8 0, .int .u8 0, .int .u8 0, .int .u8 0, .int .u8 0, .int .u8 0, .int .u8 0, .int .u8 0, .int .u8 0] : Array Value)[i]? = some (.int .u8 0) := by
  intro i hi
  have e : (#[.int .u8 0, .int .u8 0, .int .u8 0, .int .u8 0, .int .u8 0, .int .u8 0, .int .u8 0, .int .u8 0, .int .u8 0, .int .u8 0, .int .u8 0, .int .u8 0, .int .u8 0, .int .u8 0, .int .u8 0, .int .u8 0, .int .u8 0, .int .u8 0, .int .u8 0, .int .u8 0] : Array Value) = Array.replicate 20 (.int .u8 0) := rfl
  rw [e]
  simp [hi]

theorem Try.len37 : Try.prog.arrayLen 37 = 20 := by kernel_rfl
theorem Try.elem37 : Try.prog.elem 37 = 5 := by kernel_rfl
theorem Try.size5 : ∀ w, (sizeOf 5).run Try.prog w = .ok 1 w := fun _ => by kernel_rfl

theorem slice_buf (D p : Nat) (hp : p < 20) (w : World) : (Instr.sliceAt 37 (.pointer (some ⟨D, 0, none⟩)) (some (.int .i64 (p : Int))) none none).run Try.prog w = .ok (.slice (some ⟨D, p, none⟩) (20 - p) (20 - p)) w := by
  rw [run_sliceAt_array_l w 37 ⟨D, 0, none⟩ (by rw [Try.len37, Try.elem37]; exact Try.underlying37) .i64 p (by omega) (by rw [Try.len37]; omega), Try.elem37, Try.size5, Try.len37]
  simp only [Result.andThen, slicedAt, Int.toNat_natCast]
  rw [if_neg (by omega), addp]
  simp

/-- What the row reads as behind the store of one digit more. -/
theorem digRow_set {w : World} {D n p q : Nat} (hp : p < 20) (hq : q = n / 10 ^ (19 - p)) (h : w.rowIs D 37 20 (digRow n (p + 1))) : (w.setCell ⟨D, p, none⟩ (.int .u8 (48 + (q : Int) % 10))).rowIs D 37 20 (digRow n p) := by
  refine (h.set p _).congr (fun t ht => ?_)
  by_cases e : t = p
  · subst e
    rw [if_pos rfl]
    unfold digRow dig
    rw [if_pos (Nat.le_refl _), ← hq]
    congr 1
  · rw [if_neg e]
    unfold digRow
    by_cases h2 : p ≤ t
    · rw [if_pos (by omega), if_pos h2]
    · rw [if_neg (by omega), if_neg h2]

/-- The string that the row's tail makes. -/
theorem digRow_conv {w : World} {D n p : Nat} (hp : p < 20) (h : w.rowIs D 37 20 (digRow n p)) :
    (convert 29 9 (.slice (some ⟨D, p, none⟩) (20 - p) (20 - p))).run Try.prog w = .ok (.string (bytesOf ((List.range (20 - p)).map (fun i => dig n (20 - p - 1 - i))))) w := by
  refine conv_string w ⟨D, p, none⟩ (20 - p) (20 - p) _ (by simp) (fun j v hj => ?_)
  rw [List.map_map, List.getElem?_map] at hj
  by_cases hjn : j < 20 - p
  · rw [List.getElem?_range hjn] at hj
    simp at hj
    subst hj
    rw [addp, h.cell (by omega)]
    unfold digRow
    rw [if_pos (by omega), show 19 - (p + j) = 20 - p - 1 - j by omega]
  · rw [List.getElem?_eq_none (by simp; omega)] at hj
    simp at hj

set_option maxRecDepth 100000 in
set_option maxHeartbeats 1600000 in
theorem itoa17 (n : Nat) (w : World) (hn : n < 18446744073709551616) :
    Calls Try.prog 17 #[.int .u64 n] w fun e w' => ∃ (s : ByteArray) (j : Nat), e = .returned (.string s) ∧ IsDec n j s.data.toList ∧ w.grownBy w' none := by
  have HN := hide hn
  clear hn
  go_enter Try.func17, Try.ntmps17
  go_wp2_with fail
  have g0 := World.grownBy_alloc w (.cells #[.int .u8 0, .int .u8 0, .int .u8 0, .int .u8 0, .int .u8 0, .int .u8 0, .int .u8 0, .int .u8 0, .int .u8 0, .int .u8 0, .int .u8 0, .int .u8 0, .int .u8 0, .int .u8 0, .int .u8 0, .int .u8 0, .int .u8 0, .int .u8 0, .int .u8 0, .int .u8 0] 37) none
  have r0 : (w.alloc (.cells #[.int .u8 0, .int .u8 0, .int .u8 0, .int .u8 0, .int .u8 0, .int .u8 0, .int .u8 0, .int .u8 0, .int .u8 0, .int .u8 0, .int .u8 0, .int .u8 0, .int .u8 0, .int .u8 0, .int .u8 0, .int .u8 0, .int .u8 0, .int .u8 0, .int .u8 0, .int .u8 0] 37)).rowIs w.heap.size 37 20 (digRow n 20) :=
    World.rowIs_alloc w _ 37 _ (fun i hi => by
      have h20 : i < 20 := hi
      have e : digRow n 20 i = .int .u8 0 := if_neg (by omega)
      rw [e]
      exact zeros20 i h20)
  generalize w.alloc (.cells #[.int .u8 0, .int .u8 0, .int .u8 0, .int .u8 0, .int .u8 0, .int .u8 0, .int .u8 0, .int .u8 0, .int .u8 0, .int .u8 0, .int .u8 0, .int .u8 0, .int .u8 0, .int .u8 0, .int .u8 0, .int .u8 0, .int .u8 0, .int .u8 0, .int .u8 0, .int .u8 0] 37) = w0 at *
  go_loopw [0, 4] (fun nv iv wr => ∃ p q : Nat, p < 20 ∧ iv = .int .i64 ((p : Int) + 1) ∧ nv = .int .u64 q ∧ q = n / 10 ^ (19 - p) ∧ (p = 19 ∨ q ≠ 0) ∧ wr.rowIs w.heap.size 37 20 (digRow n (p + 1)) ∧ w.grownBy wr none) (fun _ iv _ => (intOf iv).toNat)
  case atStart => exact ⟨19, n, by omega, rfl, rfl, by simp, .inl rfl, r0, g0⟩
  case round =>
    obtain ⟨p, q, hp, rfl, rfl, hq, hz, hrow, hg⟩ := hrel
    have HQ := hide hq
    have HZ := hide hz
    have hcp := hrow.cell hp
    have hfp := hrow.frozen p
    have hdr : digRow n (p + 1) p = .int .u8 0 := if_neg (by omega)
    rw [hdr] at hcp
    have hpi : (p : Int) < 20 := by omega
    have hm0 : (0 : Int) ≤ (q : Int) % 10 := by omega
    have hm9 : (q : Int) % 10 ≤ 9 := by omega
    have hq64 : (q : Int) < 18446744073709551616 := by
      have h1 : q ≤ n := by rw [hq]; exact Nat.div_le_self _ _
      have h2 := unhide HN
      omega
    have hw : IntKind.u64.wrap ((q : Int) / 10) = (q : Int) / 10 := by rw [IntKind.wrap_u64]; omega
    have hrow' := digRow_set hp hq hrow
    have hg' := hg.andThen (grown_set wr w.heap.size p (.int .u8 (48 + (q : Int) % 10))) (by simp)
    clear hq hz hdr r0 g0 hq64 hg hrow
    by_cases he : q / 10 = 0
    · have he' : ((q : Int) / 10 == 0) = true := beq_iff_eq.2 (by omega)
      have hsl := slice_buf w.heap.size p hp
      have hcv := digRow_conv hp hrow'
      have HD : Hid (IsDec n (20 - p) (bytesOf ((List.range (20 - p)).map (fun i => dig n (20 - p - 1 - i)))).data.toList) := by
        refine ⟨by omega, by omega, ?_, ?_, ?_⟩
        · have h1 := unhide HQ
          rw [h1, Nat.div_div_eq_div_mul, ← Nat.pow_succ, show (19 - p).succ = 20 - p by omega] at he
          exact (Nat.div_eq_zero_iff_lt (Nat.pow_pos (by omega))).1 he
        · rcases unhide HZ with h | h
          · left; omega
          · right
            rw [unhide HQ] at h
            rw [show 20 - p - 1 = 19 - p by omega]
            exact Nat.le_of_not_lt (fun hlt => h (Nat.div_eq_of_lt hlt))
        · rw [bytesOf_data]; exact dig_list n (20 - p)
      generalize bytesOf ((List.range (20 - p)).map (fun i => dig n (20 - p - 1 - i))) = s at *
      clear he hrow'
      go_wp2_with fail
      go_ret
      exact ⟨s, 20 - p, rfl, unhide HD, hg'⟩
    · have he' : ((q : Int) / 10 == 0) = false := beq_eq_false_iff_ne.2 (by omega)
      have hp0 : 0 < p := by
        rcases Nat.eq_zero_or_pos p with h0 | h0
        · exfalso
          have h1 := unhide HQ
          have h2 := unhide HN
          rw [h0] at h1
          have : n / 10 ^ (19 - 0) < 10 := Nat.div_lt_of_lt_mul (by omega)
          omega
        · exact h0
      obtain ⟨p', rfl⟩ : ∃ p', p = p' + 1 := ⟨p - 1, by omega⟩
      have hq' : q / 10 = n / 10 ^ (19 - p') := by
        rw [unhide HQ, Nat.div_div_eq_div_mul, ← Nat.pow_succ, show (19 - (p' + 1)).succ = 19 - p' by omega]
      have HQ' := hide hq'
      have HE := hide he
      clear he hq'
      go_wp2_with fail
      go_roundw
      case rel => exact ⟨p', q / 10, by omega, by go_num, by go_num, unhide HQ', .inr (unhide HE), hrow', hg'⟩
      case measure => simp [intOf]; omega
end Go.Proofs.Qxb6603403a
