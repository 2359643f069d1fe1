import Derived.Test.Qxb6602576aLawLit
import Derived.Test.Qxb6602576aHex
namespace Go.Proofs.Qxb6602576a
open Go.RowKit

/-- The four bytes, by their places. -/
def dz (d0 d1 d2 d3 : Int) (j : Nat) : Int := if j = 0 then d0 else if j = 1 then d1 else if j = 2 then d2 else d3
theorem dz_cells (d0 d1 d2 d3 : Int) : ∀ j, j < 4 → (#[.int .u8 d0, .int .u8 d1, .int .u8 d2, .int .u8 d3] : Array Value)[0 + j]? = some (.int .u8 (dz d0 d1 d2 d3 j)) := by
  intro j hj
  match j, hj with
  | 0, _ => rfl
  | 1, _ => rfl
  | 2, _ => rfl
  | 3, _ => rfl
theorem dz_bd {d0 d1 d2 d3 : Int} (q0 : 0 ≤ d0 ∧ d0 ≤ 255) (q1 : 0 ≤ d1 ∧ d1 ≤ 255) (q2 : 0 ≤ d2 ∧ d2 ≤ 255) (q3 : 0 ≤ d3 ∧ d3 ≤ 255) : ∀ j, j < 4 → 0 ≤ dz d0 d1 d2 d3 j ∧ dz d0 d1 d2 d3 j ≤ 255 := by
  intro j _
  unfold dz
  repeat' split
  all_goals assumption
/-- What the last step was after k digits. -/
def lastOf (k : Nat) : Int := if k = 4 then 6 else 8

section
variable (oa : Option Addr) (ol oc : Nat) (nx : Int) (wd : ByteArray) (hx : Int) (nm : Bool) (ck at' : Int) (hn : Bool) (sa : Option Addr) (sl sc : Nat) (pa : Option Addr) (pl pc : Nat) (ls : Int)

set_option maxHeartbeats 1600000 in
/-- The early ways out. -/
theorem law5_out (d0 d1 d2 d3 : Int) (w : World) (h1 : ol ≤ maxLen) (h2 : wd.size ≤ maxLen) (h3 : sl ≤ maxLen) (h4 : pl ≤ maxLen)
    (h : ¬ (ol + wd.size + 8 * sl + 8 * pl ≤ 1048576)) :
    Calls Try.prog 5 #[cfv oa ol oc nx wd hx nm ck at' hn sa sl sc pa pl pc ls, .int .u8 d0, .int .u8 d1, .int .u8 d2, .int .u8 d3] w fun e w' => e = .returned (.bool true) ∧ w.grownBy w' none := by
  have g0 := World.grownBy_alloc w (.cells #[.slice oa ol oc, .int .u8 nx, .string wd, .int .i64 hx, .bool nm, .int .i64 ck, .int .i64 at', .bool hn, .slice sa sl sc, .slice pa pl pc, .int .i64 ls] 25) none
  have hB0 := heap_alloc_new w (.cells #[.slice oa ol oc, .int .u8 nx, .string wd, .int .i64 hx, .bool nm, .int .i64 ck, .int .i64 at', .bool hn, .slice sa sl sc, .slice pa pl pc, .int .i64 ls] 25)
  have HB0 := hide hB0
  clear hB0
  by_cases hA : ol + wd.size + sl + pl ≤ 1048576
  · have dA : decide (ol + wd.size + sl + pl ≤ 1048576) = true := by simpa using hA
    have dB : decide (ol + wd.size + 8 * sl + 8 * pl ≤ 1048576) = false := by simpa using h
    go_enter Try.func5, Try.ntmps5
    go_wp2_with fail
    refine (bytes18 oa ol oc nx wd hx nm ck at' hn sa sl sc pa pl pc ls d0 d1 d2 d3 _ h1 h2 h3 h4).mono ?_
    rintro e w1 ⟨rfl, g1⟩
    have hB1 := box_kept (unhide HB0) g1
    have c1 := fun j => cell_of_row w1 _ j _ _ _ hB1
    clear hB1
    go_wp2_with fail
    refine (fit8 oa ol oc nx wd hx nm ck at' hn sa sl sc pa pl pc ls _ h1 h2 h3 h4).mono ?_
    rintro e w2 ⟨rfl, g2⟩
    clear c1
    go_wp2_with fail
    go_ret
    exact ⟨rfl, (g0.trans g1).trans g2⟩
  · have dA : decide (ol + wd.size + sl + pl ≤ 1048576) = false := by simpa using hA
    go_enter Try.func5, Try.ntmps5
    go_wp2_with fail
    refine (bytes18 oa ol oc nx wd hx nm ck at' hn sa sl sc pa pl pc ls d0 d1 d2 d3 _ h1 h2 h3 h4).mono ?_
    rintro e w1 ⟨rfl, g1⟩
    go_wp2_with fail
    go_ret
    exact ⟨rfl, g0.trans g1⟩

set_option maxRecDepth 100000 in
set_option maxHeartbeats 3200000 in
theorem law5_in (d0 d1 d2 d3 : Int) (q0 : 0 ≤ d0 ∧ d0 ≤ 255) (q1 : 0 ≤ d1 ∧ d1 ≤ 255) (q2 : 0 ≤ d2 ∧ d2 ≤ 255) (q3 : 0 ≤ d3 ∧ d3 ≤ 255) (zo zs zp : Nat → Int) (w : World) (hC : ol + wd.size + 8 * sl + 8 * pl ≤ 1048576)
    (ro : Rd .u8 w oa ol zo) (rs : Rd .i64 w sa sl zs) (rp : Rd .i64 w pa pl zp) (co : oa = none → oc = 0) (cs : sa = none → sc = 0) (cp : pa = none → pc = 0) :
    Calls Try.prog 5 #[cfv oa ol oc nx wd hx nm ck at' hn sa sl sc pa pl pc ls, .int .u8 d0, .int .u8 d1, .int .u8 d2, .int .u8 d3] w fun e w' => e = .returned (.bool true) ∧ w.grownBy w' none := by
  have g0 := World.grownBy_alloc w (.cells #[.slice oa ol oc, .int .u8 nx, .string wd, .int .i64 hx, .bool nm, .int .i64 ck, .int .i64 at', .bool hn, .slice sa sl sc, .slice pa pl pc, .int .i64 ls] 25) none
  have hB0 := heap_alloc_new w (.cells #[.slice oa ol oc, .int .u8 nx, .string wd, .int .i64 hx, .bool nm, .int .i64 ck, .int .i64 at', .bool hn, .slice sa sl sc, .slice pa pl pc, .int .i64 ls] 25)
  have HB0 := hide hB0
  clear hB0
  have h1 : ol ≤ maxLen := by unfold maxLen; omega
  have h2 : wd.size ≤ maxLen := by unfold maxLen; omega
  have h3 : sl ≤ maxLen := by unfold maxLen; omega
  have h4 : pl ≤ maxLen := by unfold maxLen; omega
  have dA : decide (ol + wd.size + sl + pl ≤ 1048576) = true := by simp; omega
  have dB : decide (ol + wd.size + 8 * sl + 8 * pl ≤ 1048576) = true := by simp; omega
  have hol : ol ≤ 1048576 := by omega
  have hwd : wd.size ≤ 1048576 := by omega
  have hsl : sl ≤ 1048576 := by omega
  have hpl : pl ≤ 1048576 := by omega
  go_enter Try.func5, Try.ntmps5
  go_wp2_with fail
  refine (bytes18 oa ol oc nx wd hx nm ck at' hn sa sl sc pa pl pc ls d0 d1 d2 d3 _ h1 h2 h3 h4).mono ?_
  rintro e w1 ⟨rfl, g1⟩
  have hB1 := box_kept (unhide HB0) g1
  have c1 := fun j => cell_of_row w1 _ j _ _ _ hB1
  have HB1 := hide hB1
  clear hB1
  go_wp2_with fail
  refine (fit8 oa ol oc nx wd hx nm ck at' hn sa sl sc pa pl pc ls _ h1 h2 h3 h4).mono ?_
  rintro e w2 ⟨rfl, g2⟩
  have hB2 := box_kept (unhide HB1) g2
  have c2 := fun j => cell_of_row w2 _ j _ _ _ hB2
  have HB2 := hide hB2
  have gw2 := (g0.trans g1).trans g2
  clear hB2 c1 g0 g1 g2 HB0 HB1
  go_wp2_with fail
  refine (clone10 oa ol oc nx wd hx nm ck at' hn sa sl sc pa pl pc ls zo zs zp _ hol hsl hpl (ro.grown gw2) (rs.grown gw2) (rp.grown gw2) co cs cp).mono ?_
  rintro e w6 ⟨oa', sa', pa', rfl, o6, s6, p6, g6⟩
  have hB6 := box_kept (unhide HB2) g6
  have gw6 := gw2.trans g6
  clear HB2 c2 g6
  have HB6 := hide hB6
  clear hB6
  go_wp2_with (refine wpList_store_is rfl 25 (.tmp 5) (.tmp 27) rfl w.heap.size 25 _ #[.slice oa' ol ol, .int .u8 nx, .string wd, .int .i64 hx, .bool nm, .int .i64 ck, .int .i64 at', .bool hn, .slice sa' sl sl, .slice pa' pl pl, .int .i64 ls] (by rfl) (by rfl) (unhide HB6) (by rfl) Try.size25' (by simp [Value.oneCell']) ?_)
  intro w7 hB7 g7 hs7
  have o7 := o6.kept g7 (unhide HB6) (by decide)
  have s7 := s6.kept g7 (unhide HB6) (by decide)
  have p7 := p6.kept g7 (unhide HB6) (by decide)
  have gw7 := gw6.andThen g7 (by simp)
  have c7 := fun j => cell_of_row w7 _ j _ _ _ hB7
  have HB7 := hide hB7
  clear hB7 o6 s6 p6 gw6 g7 HB6 hs7
  go_wp2_with fail
  refine (new11 nx wd hx nm ck at' hn ls oa' ol ol sa' sl sl pa' pl pl zo zs zp w7 hol hsl hpl o7.rd s7.rd p7.rd ?_ ?_ ?_).mono ?_
  · intro h; rcases o7 with ⟨_, h⟩ | ⟨g, h', _⟩
    · exact h
    · rw [h] at h'; cases h'
  · intro h; rcases s7 with ⟨_, h⟩ | ⟨g, h', _⟩
    · exact h
    · rw [h] at h'; cases h'
  · intro h; rcases p7 with ⟨_, h⟩ | ⟨g, h', _⟩
    · exact h
    · rw [h] at h'; cases h'
  rintro e w8 ⟨B, oa8, np, rfl, hBl, hB8, o8, n8, g8⟩
  have gw8 := gw7.trans g8
  have hbox8 := box_kept (unhide HB7) g8
  have c8 := fun j => cell_of_row w8 _ j _ _ _ hbox8
  have hBw : w.heap.size ≤ B := Nat.le_trans gw7.size hBl
  have hBb : w.heap.size < w7.heap.size := lt_of_block (unhide HB7)
  have o8' := o7.kept0 g8
  have s8' := s7.kept0 g8
  have p8' := p7.kept0 g8
  have HB8 := hide hB8
  have Hbox8 := hide hbox8
  clear hB8 c7 o7 s7 p7 HB7 hbox8 ro rs rp
  go_wp2_with fail
  refine (esc16 B _ _ _ _ _ _ _ _ w8 (unhide HB8)).mono ?_
  rintro e w9 ⟨rfl, hB9, g9⟩
  have hbox9 := (g9.block w.heap.size (lt_of_block (unhide Hbox8)) (by simp; omega)).trans (unhide Hbox8)
  have o9 := o8.kept g9 (unhide HB8) (by decide)
  have n9 := n8.keptB g9 (unhide HB8)
  have oo9 := o8'.kept g9 (unhide HB8) (by decide)
  have ss9 := s8'.kept g9 (unhide HB8) (by decide)
  have pp9 := p8'.kept g9 (unhide HB8) (by decide)
  have gw9 := gw8.andThen g9 (fun j hj => .inl (by simp at hj; omega))
  have C9 := hide (fun j => cell_of_row w9 _ j _ _ _ hB9)
  have HB9 := hide hB9
  have Hbox9 := hide hbox9
  clear hB9 hbox9 c8 HB8 Hbox8 o8 n8 o8' s8' p8' gw8 g9
  go_wp2_with (go_at_call 19; refine (hexes19 B 4 _ (unhide C9 3)).mono ?_; rintro e w10 ⟨rfl, rfl⟩)
  have gD := World.grownBy_alloc w9 (.cells #[.int .u8 d0, .int .u8 d1, .int .u8 d2, .int .u8 d3] 5) none
  have hcD : ∀ j, j < 4 → (w9.alloc (.cells #[.int .u8 d0, .int .u8 d1, .int .u8 d2, .int .u8 d3] 5)).cell? ⟨w9.heap.size, 0 + j, none⟩ = some (.int .u8 (dz d0 d1 d2 d3 j)) := by
    intro j hj
    rw [cell_of_row _ _ _ _ _ _ (heap_alloc_new w9 (.cells #[.int .u8 d0, .int .u8 d1, .int .u8 d2, .int .u8 d3] 5))]
    exact dz_cells d0 d1 d2 d3 j hj
  have hzD := dz_bd q0 q1 q2 q3
  have hDne : w9.heap.size ≠ B := by have := lt_of_block (unhide HB9); omega
  have hBD := box_kept (unhide HB9) gD
  have hboxD := box_kept (unhide Hbox9) gD
  have oD := o9.kept0 gD
  have nD := n9.kept0 gD
  have ooD := (oo9.kept0 gD)
  have ssD := (ss9.kept0 gD)
  have ppD := (pp9.kept0 gD)
  have gwD := gw9.trans gD
  have HCD := hide hcD
  have HBD := hide hBD
  have HboxD := hide hboxD
  have HZD := hide hzD
  clear hcD hBD hboxD hzD o9 n9 oo9 ss9 pp9 gw9 gD C9 HB9 Hbox9
  generalize w9.alloc (.cells #[.int .u8 d0, .int .u8 d1, .int .u8 d2, .int .u8 d3] 5) = w10 at *
  generalize hz : dz d0 d1 d2 d3 = z at *
  generalize w9.heap.size = D at *
  clear hz
  go_loopw [13, 14] (fun l i wr => ∃ k : Nat, k ≤ 4 ∧ i = .int .i64 k ∧ l = .int .u8 (lastOf k) ∧ wr.heap[B]? = some (.cells #[.slice oa8 ol ol, .int .u8 nx, .string wd, .int .i64 (4 - k), .bool nm, .int .i64 ck, .int .i64 at', .pointer np] 56 (0, 0)) ∧ w10.grownBy wr (some B) ∧ ∀ j, j < k → hexd (z j) = true) (fun _ i _ => 4 - (intOf i).toNat)
  case atStart => exact ⟨0, by omega, rfl, rfl, unhide HBD, World.grownBy.refl _ _, fun j hj => by omega⟩
  case round =>
    obtain ⟨k, hk, rfl, rfl, hBr, hgr, hall⟩ := hrel
    have hcr : ∀ j, j < 4 → wr.cell? ⟨D, 0 + j, none⟩ = some (.int .u8 (z j)) := fun j hj => hgr.cell (unhide HCD j hj) (by simpa using hDne)
    have HCR := hide hcr
    have HBR := hide hBr
    have HA := hide hall
    clear hcr hBr hall
    by_cases hlt : k < 4
    · have hck := unhide HCR k hlt
      obtain ⟨z0, z1⟩ := unhide HZD k hlt
      simp only [Nat.zero_add] at hck
      have hlti : (k : Int) < 4 := by omega
      cases hd : hexd (z k)
      · have HD := hide hd
        clear hd
        go_wp2_with fail
        refine (uni16_no B _ _ _ _ _ _ _ _ (z k) wr z0 z1 (unhide HD) (unhide HBR)).mono ?_
        rintro e w11 ⟨rfl, g11⟩
        have hc11 : ∀ j, j < 4 → w11.cell? ⟨D, 0 + j, none⟩ = some (.int .u8 (z j)) := fun j hj => g11.cell (unhide HCR j hj) (by simp)
        have HC11 := hide hc11
        clear hc11 hck
        go_wp2_with fail
        refine (hex20 D 0 k 4 z w11 (by omega) (fun j hj => unhide HZD j (by omega)) (fun j hj => unhide HC11 j (by omega))).mono ?_
        rintro e w12 ⟨n1, rfl, hs1, rfl⟩
        have hn1 : 0 ≤ n1 := hs1.1 (unhide HA)
        clear hs1
        go_wp2_with fail
        refine (hex20 D k 1 (4 - k) (fun j => z (k + j)) w11 (by omega) (fun j hj => unhide HZD (k + j) (by omega)) (fun j hj => by have := unhide HC11 (k + j) (by omega); rwa [Nat.zero_add] at this)).mono ?_
        rintro e w12 ⟨n2, rfl, hs2, rfl⟩
        have hn2 : n2 < 0 := hs2.2 ⟨0, by omega, unhide HD⟩
        clear hs2
        go_wp2_with fail
        refine (hex20 D 0 4 4 z w11 (by omega) (fun j hj => unhide HZD j hj) (fun j hj => unhide HC11 j hj)).mono ?_
        rintro e w12 ⟨n3, rfl, hs3, rfl⟩
        have hn3 : n3 < 0 := hs3.2 ⟨k, by omega, unhide HD⟩
        clear hs3
        go_wp2_with fail
        go_ret
        exact ⟨ret_bool (by simp), ((gwD.andThen hgr (fun j hj => .inl (by simp at hj; omega))).trans g11)⟩
      · have HD := hide hd
        clear hd
        go_wp2_with fail
        refine (uni16_yes B _ _ _ _ _ _ _ (4 - k) (z k) wr (by omega) (by omega) z0 z1 (unhide HD) (unhide HBR)).mono ?_
        rintro e w11 ⟨rfl, hB11, g11⟩
        have HB11 := hide hB11
        have gr11 := hgr.trans g11
        clear hB11 hck HBR HCR hgr g11
        by_cases h3 : k < 3
        · have hu : uniStep (4 - k) = 8 := if_neg (by omega)
          have hl : lastOf (k + 1) = 8 := if_neg (by omega)
          have HL := hide hl
          have h3i : (k : Int) < 3 := by omega
          rw [hu]
          clear hu hl
          go_wp2_with fail
          go_roundw
          case rel =>
            refine ⟨k + 1, by omega, by go_num, by rw [unhide HL], ?_, gr11, fun j hj => ?_⟩
            · rw [unhide HB11]; simp; omega
            · by_cases e : j = k
              · rw [e]; exact unhide HD
              · exact unhide HA j (by omega)
          case measure => simp [intOf]; omega
        · obtain rfl : k = 3 := by omega
          have hu : uniStep (4 - ((3 : Nat) : Int)) = 6 := rfl
          rw [hu]
          clear hu h3
          go_wp2_with fail
          go_roundw
          case rel =>
            refine ⟨4, by omega, by go_num, rfl, ?_, gr11, fun j hj => ?_⟩
            · rw [unhide HB11]; rfl
            · by_cases e : j = 3
              · rw [e]; exact unhide HD
              · exact unhide HA j (by omega)
          case measure => simp [intOf]
    · obtain rfl : k = 4 := by omega
      have hl : lastOf 4 = 6 := rfl
      rw [hl]
      have hBr := unhide HBR
      have e0 : (4 - ((4 : Nat) : Int)) = 0 := rfl
      rw [e0] at hBr
      have oR : Own 5 .u8 w7.heap.size wr oa8 ol zo := oD.kept hgr (unhide HBD) (by decide)
      have nR : Nts wr w7.heap.size np hn sl zs pl zp ls := nD.keptB hgr (unhide HBD)
      have ooR := (ooD.kept hgr (unhide HBD) (by decide)).rd
      have ssR := (ssD.kept hgr (unhide HBD) (by decide)).rd
      have ppR := (ppD.kept hgr (unhide HBD) (by decide)).rd
      have hbR := (hgr.block w.heap.size (lt_of_block (unhide HboxD)) (by simp; omega)).trans (unhide HboxD)
      have cR := fun j => cell_of_row wr _ j _ _ _ hbR
      have HBR' := hide hBr
      clear hBr hbR HBR oD nD ooD ssD ppD e0 hl
      go_wp2_with fail
      refine (hex20 D 0 4 4 z wr (by omega) (fun j hj => unhide HZD j hj) (fun j hj => unhide HCR j hj)).mono ?_
      rintro e w12 ⟨n3, rfl, hs3, rfl⟩
      have hn3 : 0 ≤ n3 := hs3.1 (unhide HA)
      clear hs3
      go_wp2_with fail
      refine (state17 w7.heap.size B oa8 oa' ol ol nx wd wd hx 0 nm ck at' np hn sa' sl sl pa' pl pl ls zo zs zp wr hol hsl hpl (Nat.le_refl _) (unhide HBR') oR.rd nR ooR ssR ppR).mono ?_
      rintro e w13 ⟨rfl, g13⟩
      go_wp2_with fail
      go_ret
      exact ⟨ret_bool (by simp), (gwD.andThen hgr (fun j hj => .inl (by simp at hj; omega))).trans g13⟩
end
end Go.Proofs.Qxb6602576a
