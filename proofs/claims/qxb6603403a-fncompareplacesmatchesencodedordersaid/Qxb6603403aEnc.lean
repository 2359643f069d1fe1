import Derived.Test.Qxb6603403aPlainOrd
import Derived.Test.Qxb6603403aSame
import Derived.OwnWalk
namespace Go.Proofs.Qxb6603403a
open Go.RowKit

theorem Try.info5 : (Try.prog.info? 5).map (fun i => (i.zero, i.size, i.bytes)) = some (some (.int .u8 0), 1, 1) := by kernel_rfl

def bv (l : List UInt8) : List Value := l.map fun c => .int .u8 c.toNat

/-- The slice v of the call's own holds the bytes E. -/
def OwnB (base : Nat) (w : World) (v : Value) (E : List UInt8) : Prop := w.ownsRow base 5 1 v E.length (bv E)

theorem OwnB.alloc {base : Nat} {w : World} {v : Value} {E : List UInt8} (h : OwnB base w v E) (o : Obj) : OwnB base (w.alloc o) v E := World.ownsRow.alloc h o
theorem OwnB.kept0 {base : Nat} {w w' : World} {v : Value} {E : List UInt8} (h : OwnB base w v E) (hg : w.grownBy w' none) : OwnB base w' v E := World.ownsRow.kept h hg (by cases hv : v.ownBlock <;> simp)

/-- append of bytes onto a slice of the call's own: the value and the world behind it are letters. -/
theorem wpList_append_b {w : World} {ops : Array Oper} {rest : List Oper} {o : Oper} {a : Act} {Q : Exit → Act → World → Prop} (hgd : o.guard = none) (s x : Operand)
    (hop : o.op = .call { callee := .builtin .append, args := #[s, x], argTypes := #[29, 29] })
    (base : Nat) (v : Value) (E : List UInt8) (hs : a.eval s = v) (hown : OwnB base w v E) (ad : Addr) (m c : Nat) (N : List UInt8) (hx : a.eval x = .slice (some ad) m c) (hm : N.length = m)
    (hnews : ∀ j u, (bv N)[j]? = some u → w.cell? (ad.add j) = some u) (hlen : E.length + m ≤ 70368744177664) (hbase : base ≤ w.heap.size)
    (hK : ∀ v' w', OwnB base w' v' (E ++ N) → (∀ W : World, W.grownBy w none → W.heap.size ≤ base → W.grownBy w' none) → wpList Try.prog ops Q rest (a.put o.dst v') w') : wpList Try.prog ops Q (o :: rest) a w := by
  obtain ⟨i0, hi0, hz0, hz1, hz2⟩ := info_parts Try.info5
  refine wpList_append_own _ hgd s x 29 hop base 5 i0 (.int .u8 0) 1 1 Try.underlying29 hi0 hz0 hz1 hz2 rfl (by omega) v E.length (bv E) hs hown ad m c (bv N) hx (by simp [bv, hm]) hnews ?_ ?_ ?_ hbase ?_
  · intro u hu
    obtain ⟨c, _, rfl⟩ := List.mem_map.1 hu
    rfl
  · unfold maxLen; omega
  · omega
  · intro v' w' h1 h2 _
    refine hK v' w' ?_ (fun W hW hb => hW.andThen h2 (fun j hj => .inl (Nat.le_trans hb (World.ownsRow.lt hown j hj).1)))
    unfold OwnB
    rw [List.length_append, hm]
    simpa [bv] using h1


set_option maxHeartbeats 400000 in
theorem digits19 (s : ByteArray) (w : World) (hs : s.size ≤ 1048576) :
    Calls Try.prog 19 #[.string s] w fun e w' => e = .returned (.bool (idx s.data.toList)) ∧ w = w' := by
  go_enter Try.func19, Try.ntmps19
  go_wp2_with fail
  go_loop [3] (fun i => ∃ k : Nat, k ≤ s.size ∧ i = .int .i64 k ∧ idx (s.data.toList.take k) = true) (fun i => s.size - (intOf i).toNat)
  case atStart => exact ⟨0, Nat.zero_le _, rfl, rfl⟩
  case round =>
    obtain ⟨k, hk, rfl, hi⟩ := hrel
    have HI := hide hi
    clear hi
    by_cases hlt : k < s.size
    · have hn := idx_no s k hlt
      have ht := idx_take s k hlt
      have HN := hide hn
      have HT := hide ht
      clear hn ht
      go_wp2_with fail
      · go_ret
        exact ⟨ret_bool (unhide HN (by omega)).symm, rfl⟩
      · go_round
        case rel =>
          refine ⟨k + 1, by omega, by go_num, ?_⟩
          rw [unhide HT, unhide HI]
          simp
          omega
        case measure => simp [intOf]; omega
      · go_ret
        exact ⟨ret_bool (unhide HN (by omega)).symm, rfl⟩
    · have hi := unhide HI
      rw [List.take_of_length_le (show s.data.toList.length ≤ k by have : s.data.toList.length = s.size := rfl; omega)] at hi
      have HI' := hide hi
      clear hi HI
      go_wp2_with fail
      go_ret
      exact ⟨ret_bool (unhide HI').symm, rfl⟩

theorem encPl_snoc : ∀ (L : List (List UInt8)) (t : List UInt8), encPl (L ++ [t]) = encPl L ++ encTok t
  | [], t => by simp [encPl]
  | x :: L, t => by simp [encPl, encPl_snoc L t]

theorem esc_snoc : ∀ (l : List UInt8) (c : UInt8), esc (l ++ [c]) = esc l ++ (if c = 0 then [0, 255] else [c])
  | [], c => by simp [esc]
  | a :: l, c => by simp [esc, esc_snoc l c]

theorem esc_len : ∀ l : List UInt8, (esc l).length ≤ 2 * l.length
  | [] => by simp [esc]
  | c :: l => by
    have := esc_len l
    simp only [esc, List.length_append, List.length_cons]
    split <;> simp <;> omega

theorem encTok_len (t : List UInt8) (h : t.length ≤ 1048576) : (encTok t).length ≤ 2097163 := by
  have := esc_len t
  unfold encTok
  simp only [List.length_append, List.length_cons, List.length_nil]
  split
  · simp [dgs_length]; omega
  · simp; omega

theorem enc_len (A : List ByteArray) (hA : ∀ s ∈ A, s.size ≤ 1048576) : (encPl (tk A)).length ≤ A.length * 2097163 := by
  induction A with
  | nil => simp [tk, encPl]
  | cons a A ih =>
    have h1 := ih (fun s hs => hA s (by simp [hs]))
    have h2 := encTok_len a.data.toList (hA a (by simp))
    show (encTok a.data.toList ++ encPl (tk A)).length ≤ _
    rw [List.length_append, List.length_cons]
    omega

theorem dgs_take (L : Nat) : ∀ r, r < 8 → (dgs 256 0 L 8).take (r + 1) = (dgs 256 0 L 8).take r ++ [UInt8.ofNat (L / 256 ^ (7 - r) % 256)] := by
  intro r hr
  match r, hr with
  | 0, _ => simp [dgs]
  | 1, _ => simp [dgs]
  | 2, _ => simp [dgs]
  | 3, _ => simp [dgs]
  | 4, _ => simp [dgs]
  | 5, _ => simp [dgs]
  | 6, _ => simp [dgs]
  | 7, _ => simp [dgs]

theorem cell_one_b (w : World) (x : Int) (c : UInt8) (h : x = c.toNat) : ∀ j u, (bv [c])[j]? = some u → (w.alloc (.cells #[.int .u8 x] 5)).cell? ((⟨w.heap.size, 0, none⟩ : Addr).add j) = some u := by
  subst h
  exact cell_one_new _ _ _
theorem esc_len_take (s : ByteArray) : ∀ j, (esc (s.data.toList.take j)).length ≤ 2 * s.size := fun j => by
  have h := esc_len (s.data.toList.take j)
  rw [List.length_take] at h
  have : s.data.toList.length = s.size := rfl
  omega
theorem take_snoc_b (s : ByteArray) (k : Nat) (h : k < s.size) : s.data.toList.take (k + 1) = s.data.toList.take k ++ [s[k]] := by
  rw [List.take_succ_eq_append_getElem (by simpa using h)]; rfl

set_option maxRecDepth 100000 in
set_option maxHeartbeats 3200000 in
theorem enc12 (a : Option Addr) (ca : Nat) (A : List ByteArray) (w : World) (sA : Small A) (hA : Rds w a A) :
    Calls Try.prog 12 #[.slice a A.length ca] w fun e w' => ∃ v, e = .returned v ∧ OwnB w.heap.size w' v (encPl (tk A)) ∧ w.grownBy w' none := by
  obtain ⟨i0, hi0, hz0, hz1, hz2⟩ := info_parts Try.info5
  obtain ⟨la', mA⟩ := sA
  have TA := hide (take_succ_getD A)
  have FA : Hid (A.take A.length = A) := List.take_length
  have HMA := hide mA
  clear mA
  have HEL : Hid (∀ k, k ≤ A.length → (encPl (tk (A.take k))).length ≤ 2200000000000) := fun k hk => by
    have := enc_len (A.take k) (fun s hs => unhide HMA s (List.mem_of_mem_take hs))
    rw [List.length_take, Nat.min_eq_left hk] at this
    have h2 : k * 2097163 ≤ 1048576 * 2097163 := Nat.mul_le_mul_right _ (by omega)
    omega
  generalize hLA : A.length = la at *
  have HLA := hide hLA
  clear hLA
  go_enter Try.func12, Try.ntmps12
  go_wp2_with (at_make; refine wpList_make_own _ rfl _ _ 29 rfl w.heap.size 5 i0 (.int .u8 0) 1 Try.underlying29 hi0 hz0 hz1 .i64 .i64 _ 0 rfl rfl rfl (by omega) (by unfold maxLen; omega) (by omega) ?_; intro w1 hown hg1)
  have hown' : OwnB w.heap.size w1 (.slice (some ⟨w.heap.size, 0, none⟩) 0 0) [] := hown
  clear hown
  go_loopw [3, 4] (fun v i wr => ∃ k : Nat, k ≤ la ∧ i = .int .i64 k ∧ OwnB w.heap.size wr v (encPl (tk (A.take k))) ∧ w.grownBy wr none) (fun _ i _ => la - (intOf i).toNat)
  case atStart => exact ⟨0, Nat.zero_le _, rfl, hown', hg1⟩
  case round =>
    obtain ⟨k, hk, rfl, hv, hgr⟩ := hrel
    clear hown' hg1
    have hEl := unhide HEL k hk
    by_cases hlt : k < la
    · obtain ⟨b1, o1, s, rfl, hcs, hs⟩ := (hA.grown hgr).at (k := k) (by rw [unhide HLA]; exact hlt)
      have szs : s.size ≤ 1048576 := by rw [hs.out]; exact unhide HMA _ (mem_getD (by rw [unhide HLA]; exact hlt))
      have hfin : encPl (tk (A.take (k + 1))) = encPl (tk (A.take k)) ++ encTok s.data.toList := by
        rw [unhide TA k hlt, ← hs.out]
        show encPl (List.map _ (_ ++ [s])) = _
        rw [List.map_append]
        exact encPl_snoc _ _
      have HF := hide hfin
      have hgs := hgr.size
      clear hfin hA
      generalize encPl (tk (A.take k)) = E at *
      cases ix : idx s.data.toList
      · go_wp2_with (first
          | (go_at_call 19; refine (digits19 s _ szs).mono ?_; rintro e w2 ⟨rfl, rfl⟩)
          | (at_builtin; refine wpList_append_b rfl _ _ rfl w.heap.size _ E rfl (hv.alloc _) ⟨wr.heap.size, 0, none⟩ 1 1 [1] rfl rfl (cell_one_new _ _ _) (by omega) (by simp; omega) ?_; intro v1 w1 hvP hg1))
        have gP := hg1 w (hgr.trans (World.grownBy_alloc wr _ none)) (Nat.le_refl _)
        have hfp : encPl (tk (A.take (k + 1))) = (E ++ [1]) ++ (esc s.data.toList ++ [0, 1]) := by
          rw [unhide HF, encTok, ix]; simp
        have HFP := hide hfp
        have hPl : (E ++ [1]).length ≤ 2200000000009 := by simp; omega
        clear hg1 hv hgr hfp HF
        generalize E ++ [1] = P at *
        have hEsc := esc_len_take s
        go_loopw [3, 8] (fun v i wr => ∃ j : Nat, j ≤ s.size ∧ i = .int .i64 j ∧ OwnB w.heap.size wr v (P ++ esc (s.data.toList.take j)) ∧ w.grownBy wr none) (fun _ i _ => s.size - (intOf i).toNat)
        case atStart => exact ⟨0, Nat.zero_le _, rfl, by simpa [esc] using hvP, gP⟩
        case round =>
          obtain ⟨j, hj, rfl, hvj, gj⟩ := hrel
          have hej := hEsc j
          have hgj := gj.size
          clear hvP gP
          by_cases hlt2 : j < s.size
          · have hsn := take_snoc_b s j hlt2
            have hes : esc (s.data.toList.take (j + 1)) = esc (s.data.toList.take j) ++ (if s[j] = 0 then [0, 255] else [s[j]]) := by rw [hsn, esc_snoc]
            have hlj : (P ++ esc (s.data.toList.take j)).length ≤ 2300000000000 := by rw [List.length_append]; omega
            have HLJ := hide hlj
            by_cases hz : s[j] = 0
            · rw [if_pos hz] at hes
              have HES := hide hes
              have hz' : (((s[j]'hlt2).toNat : Int) == 0) = true := by rw [hz]; rfl
              clear hes hz hsn hlj
              go_wp2_with (at_builtin; refine wpList_append_b rfl _ _ rfl w.heap.size _ (P ++ esc (s.data.toList.take j)) rfl (hvj.alloc _) ⟨wr.heap.size, 0, none⟩ 2 2 [0, 255] rfl rfl (cell_two_new _ _ _ _) (by have := unhide HLJ; omega) (by simp; omega) ?_; intro v5 w5 hv5 hg5)
              have g5 := hg5 w (gj.trans (World.grownBy_alloc wr _ none)) (Nat.le_refl _)
              clear hg5 hvj
              go_roundw
              case rel =>
                refine ⟨j + 1, by omega, by go_num, ?_, g5⟩
                rw [unhide HES, ← List.append_assoc]
                exact hv5
              case measure => simp [intOf]; omega
            · rw [if_neg hz] at hes
              have HES := hide hes
              have hz' : (((s[j]'hlt2).toNat : Int) == 0) = false := beq_eq_false_iff_ne.2 (fun h => hz (UInt8.toNat_inj.1 (by simpa using h)))
              clear hes hz hsn hlj
              go_wp2_with (at_builtin; refine wpList_append_b rfl _ _ rfl w.heap.size _ (P ++ esc (s.data.toList.take j)) rfl (hvj.alloc _) ⟨wr.heap.size, 0, none⟩ 1 1 [s[j]] rfl rfl (cell_one_new _ _ _) (by have := unhide HLJ; omega) (by simp; omega) ?_; intro v5 w5 hv5 hg5)
              have g5 := hg5 w (gj.trans (World.grownBy_alloc wr _ none)) (Nat.le_refl _)
              clear hg5 hvj
              go_roundw
              case rel =>
                refine ⟨j + 1, by omega, by go_num, ?_, g5⟩
                rw [unhide HES, ← List.append_assoc]
                exact hv5
              case measure => simp [intOf]; omega
          · obtain rfl : j = s.size := by omega
            have hfull : s.data.toList.take s.size = s.data.toList := List.take_of_length_le (Nat.le_refl _)
            rw [hfull] at hvj
            have hlj : (P ++ esc s.data.toList).length ≤ 2300000000000 := by rw [hfull] at hej; rw [List.length_append]; omega
            have HLJ := hide hlj
            clear hfull hlj hej
            go_wp2_with (at_builtin; refine wpList_append_b rfl _ _ rfl w.heap.size _ (P ++ esc s.data.toList) rfl (hvj.alloc _) ⟨wr.heap.size, 0, none⟩ 2 2 [0, 1] rfl rfl (cell_two_new _ _ _ _) (by have := unhide HLJ; omega) (by simp; omega) ?_; intro v5 w5 hv5 hg5)
            have g5 := hg5 w (gj.trans (World.grownBy_alloc wr _ none)) (Nat.le_refl _)
            clear hg5 hvj
            go_roundw
            case rel =>
              refine ⟨k + 1, by omega, by go_num, ?_, g5⟩
              rw [unhide HFP, ← List.append_assoc]
              exact hv5
            case measure => simp [intOf]; omega
      · go_wp2_with (first
          | (go_at_call 19; refine (digits19 s _ szs).mono ?_; rintro e w2 ⟨rfl, rfl⟩)
          | (at_builtin; refine wpList_append_b rfl _ _ rfl w.heap.size _ E rfl (hv.alloc _) ⟨wr.heap.size, 0, none⟩ 1 1 [0] rfl rfl (cell_one_new _ _ _) (by omega) (by simp; omega) ?_; intro v1 w1 hv1 hg1))
        have g1 := hg1 w (hgr.trans (World.grownBy_alloc wr _ none)) (Nat.le_refl _)
        have hfp : encPl (tk (A.take (k + 1))) = (E ++ [0] ++ dgs 256 0 s.size 8) ++ (esc s.data.toList ++ [0, 1]) := by
          rw [unhide HF, encTok, ix]
          have : s.data.toList.length = s.size := rfl
          simp [this]
        have HFP := hide hfp
        clear hg1 hv hgr hfp HF
        go_loopw [3, 7] (fun v i wr => ∃ r : Nat, r ≤ 8 ∧ i = .int .i64 (56 - 8 * (r : Int)) ∧ OwnB w.heap.size wr v (E ++ [0] ++ (dgs 256 0 s.size 8).take r) ∧ w.grownBy wr none) (fun _ i _ => (8 + intOf i).toNat)
        case atStart => exact ⟨0, by omega, rfl, by simpa using hv1, g1⟩
        case round =>
          obtain ⟨r, hr, rfl, hvr, gr⟩ := hrel
          have hgr := gr.size
          clear hv1 g1
          by_cases hr8 : r < 8
          · have htk := dgs_take s.size r hr8
            have hlr : (E ++ [0] ++ (dgs 256 0 s.size 8).take r).length ≤ 2300000000000 := by
              rw [List.length_append, List.length_take]; simp; omega
            have HLR := hide hlr
            obtain ⟨c, hc⟩ : ∃ c : UInt8, c = UInt8.ofNat (s.size / 256 ^ (7 - r) % 256) := ⟨_, rfl⟩
            have hcv : (c.toNat : Int) = ((s.size / 256 ^ (7 - r) % 256 : Nat) : Int) := by
              rw [hc, UInt8.toNat_ofNat', Nat.mod_eq_of_lt (by omega)]
            rw [← hc] at htk
            have HTK := hide htk
            clear htk hlr hc
            obtain rfl | rfl | rfl | rfl | rfl | rfl | rfl | rfl : r = 0 ∨ r = 1 ∨ r = 2 ∨ r = 3 ∨ r = 4 ∨ r = 5 ∨ r = 6 ∨ r = 7 := by omega
            all_goals
              simp only [Nat.reduceSub, Nat.reducePow] at hcv
              have HCV := hide hcv
              clear hcv
              go_wp2_with (at_builtin; refine wpList_append_b rfl _ _ rfl w.heap.size _ _ rfl (hvr.alloc _) ⟨wr.heap.size, 0, none⟩ 1 1 [c] rfl rfl (cell_one_b _ _ _ (by have := unhide HCV; first | omega | (rw [IntKind.wrap_u8]; omega))) (by have := unhide HLR; omega) (by simp; omega) ?_; intro v5 w5 hv5 hg5)
              have g5 := hg5 w (gr.trans (World.grownBy_alloc wr _ none)) (Nat.le_refl _)
              clear hg5 hvr
              go_roundw
              case rel =>
                refine ⟨_, hr8, rfl, ?_, g5⟩
                rw [unhide HTK, ← List.append_assoc]
                exact hv5
              case measure => simp [intOf]
          · obtain rfl : r = 8 := by omega
            have hfull : (dgs 256 0 s.size 8).take 8 = dgs 256 0 s.size 8 := List.take_of_length_le (by rw [dgs_length]; omega)
            rw [hfull] at hvr
            have hPl : (E ++ [0] ++ dgs 256 0 s.size 8).length ≤ 2200000000009 := by simp [dgs_length]; omega
            have hvP := hvr
            have gP := gr
            clear hfull hvr gr
            generalize E ++ [0] ++ dgs 256 0 s.size 8 = P at *
            have e8 : (56 - 8 * ((8 : Nat) : Int)) = -8 := rfl
            rw [e8]
            clear e8
            go_wp2_with fail
            have hEsc := esc_len_take s
            go_loopw [3, 8] (fun v i wr => ∃ j : Nat, j ≤ s.size ∧ i = .int .i64 j ∧ OwnB w.heap.size wr v (P ++ esc (s.data.toList.take j)) ∧ w.grownBy wr none) (fun _ i _ => s.size - (intOf i).toNat)
            case atStart => exact ⟨0, Nat.zero_le _, rfl, by simpa [esc] using hvP, gP⟩
            case round =>
              obtain ⟨j, hj, rfl, hvj, gj⟩ := hrel
              have hej := hEsc j
              have hgj := gj.size
              clear hvP gP
              by_cases hlt2 : j < s.size
              · have hsn := take_snoc_b s j hlt2
                have hes : esc (s.data.toList.take (j + 1)) = esc (s.data.toList.take j) ++ (if s[j] = 0 then [0, 255] else [s[j]]) := by rw [hsn, esc_snoc]
                have hlj : (P ++ esc (s.data.toList.take j)).length ≤ 2300000000000 := by rw [List.length_append]; omega
                have HLJ := hide hlj
                by_cases hz : s[j] = 0
                · rw [if_pos hz] at hes
                  have HES := hide hes
                  have hz' : (((s[j]'hlt2).toNat : Int) == 0) = true := by rw [hz]; rfl
                  clear hes hz hsn hlj
                  go_wp2_with (at_builtin; refine wpList_append_b rfl _ _ rfl w.heap.size _ (P ++ esc (s.data.toList.take j)) rfl (hvj.alloc _) ⟨wr.heap.size, 0, none⟩ 2 2 [0, 255] rfl rfl (cell_two_new _ _ _ _) (by have := unhide HLJ; omega) (by simp; omega) ?_; intro v5 w5 hv5 hg5)
                  have g5 := hg5 w (gj.trans (World.grownBy_alloc wr _ none)) (Nat.le_refl _)
                  clear hg5 hvj
                  go_roundw
                  case rel =>
                    refine ⟨j + 1, by omega, by go_num, ?_, g5⟩
                    rw [unhide HES, ← List.append_assoc]
                    exact hv5
                  case measure => simp [intOf]; omega
                · rw [if_neg hz] at hes
                  have HES := hide hes
                  have hz' : (((s[j]'hlt2).toNat : Int) == 0) = false := beq_eq_false_iff_ne.2 (fun h => hz (UInt8.toNat_inj.1 (by simpa using h)))
                  clear hes hz hsn hlj
                  go_wp2_with (at_builtin; refine wpList_append_b rfl _ _ rfl w.heap.size _ (P ++ esc (s.data.toList.take j)) rfl (hvj.alloc _) ⟨wr.heap.size, 0, none⟩ 1 1 [s[j]] rfl rfl (cell_one_new _ _ _) (by have := unhide HLJ; omega) (by simp; omega) ?_; intro v5 w5 hv5 hg5)
                  have g5 := hg5 w (gj.trans (World.grownBy_alloc wr _ none)) (Nat.le_refl _)
                  clear hg5 hvj
                  go_roundw
                  case rel =>
                    refine ⟨j + 1, by omega, by go_num, ?_, g5⟩
                    rw [unhide HES, ← List.append_assoc]
                    exact hv5
                  case measure => simp [intOf]; omega
              · obtain rfl : j = s.size := by omega
                have hfull : s.data.toList.take s.size = s.data.toList := List.take_of_length_le (Nat.le_refl _)
                rw [hfull] at hvj
                have hlj : (P ++ esc s.data.toList).length ≤ 2300000000000 := by rw [hfull] at hej; rw [List.length_append]; omega
                have HLJ := hide hlj
                clear hfull hlj hej
                go_wp2_with (at_builtin; refine wpList_append_b rfl _ _ rfl w.heap.size _ (P ++ esc s.data.toList) rfl (hvj.alloc _) ⟨wr.heap.size, 0, none⟩ 2 2 [0, 1] rfl rfl (cell_two_new _ _ _ _) (by have := unhide HLJ; omega) (by simp; omega) ?_; intro v5 w5 hv5 hg5)
                have g5 := hg5 w (gj.trans (World.grownBy_alloc wr _ none)) (Nat.le_refl _)
                clear hg5 hvj
                go_roundw
                case rel =>
                  refine ⟨k + 1, by omega, by go_num, ?_, g5⟩
                  rw [unhide HFP, ← List.append_assoc]
                  exact hv5
                case measure => simp [intOf]; omega
    · obtain rfl : k = la := by omega
      rw [unhide FA] at hv
      clear hA
      go_wp2_with fail
      go_ret
      exact ⟨_, rfl, hv, hgr⟩
end Go.Proofs.Qxb6603403a
