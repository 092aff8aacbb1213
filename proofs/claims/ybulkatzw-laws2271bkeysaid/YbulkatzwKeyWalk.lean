/-
  LawS2271BKey: the walk.
-/
import Derived.Test.YbulkatzwFin
namespace Go.Proofs.Ybulkatzw
open Go.RowKit Go.Lib
set_option linter.unusedVariables false
set_option linter.unusedSimpArgs false
set_option maxRecDepth 100000


set_option maxHeartbeats 6400000 in
theorem key_walk (fo : Option Addr) (n fc : Nat) (F : Nat → Fd) (po : Option Addr) (m pc : Nat) (g : Nat → Nat) (w : World) (hF : IsFields w fo n fc F) (hP : IsPicks w po m pc g) :
    Calls Yba.prog 3 #[.slice fo n fc, .slice po m pc] w fun e w' => e = .returned (.bool true) ∧ Below w.heap.size w w' := by
  have HF : Hid (IsFields w fo n fc F) := hF
  have HP : Hid (IsPicks w po m pc g) := hP
  have hn := hF.len
  have hm := hP.len
  unfold maxLen at hn hm
  clear hF hP
  go_enter Yba.func3, Yba.ntmps3
  by_cases hbig : 256 < n
  · go_wp2
    go_ret
    exact ⟨rfl, Below.refl _ _⟩
  by_cases hbig2 : 256 < m
  · go_wp2
    go_ret
    exact ⟨rfl, Below.refl _ _⟩
  go_wp2
  go_loopw [5] (fun v5 wr => ∃ k : Nat, k ≤ n ∧ v5 = .int .i64 (k : Int) ∧ wr = w ∧ ∀ j, j < k → Little (F j)) (fun v5 _ => n - (intOf v5).toNat)
  case atStart => exact ⟨0, Nat.zero_le _, rfl, rfl, fun j hj => absurd hj (Nat.not_lt_zero _)⟩
  case round =>
    obtain ⟨k, hk, rfl, hw, hL⟩ := hrel
    subst wr
    have HL : Hid (∀ j, j < k → Little (F j)) := hL
    clear hL
    by_cases hlt : k < n
    · rcases HF.out.ok with h0 | ⟨b, o, rfl, hfc, hall⟩
      · omega
      · obtain ⟨⟨_, _, _, _, c4, c5⟩, _, ⟨_, _, _, hs4, hs5⟩⟩ := hall k hlt
        unfold maxLen at hs4 hs5
        clear hall
        by_cases hS : 1024 < (F k).S.size
        · go_wp2
          go_ret
          exact ⟨rfl, Below.refl _ _⟩
        by_cases hB : 1024 < (F k).B.length
        · go_wp2
          go_ret
          exact ⟨rfl, Below.refl _ _⟩
        go_wp2
        go_roundw
        case rel => exact ⟨k + 1, by omega, by go_num, by trivial, fun j hj => by
          by_cases e : j = k
          · subst e; exact ⟨by omega, by omega⟩
          · exact HL.out j (by omega)⟩
        case measure => simp [intOf]; omega
    · obtain rfl : k = n := by omega
      obtain ⟨ad0, ha0, hmk1⟩ := make_defs k (by omega)
      obtain ⟨av0, hv0, hmk2⟩ := make_vals k (by omega)
      obtain ⟨ap0, hp0, hmk3⟩ := make_parts k (by omega)
      go_wp2
      clear hmk1 hmk2 hmk3
      go_loopw [9] (fun v9 wr => ∃ i : Nat, i ≤ k ∧ v9 = .int .i64 (i : Int) ∧ Inv w wr k i F) (fun v9 _ => k - (intOf v9).toNat)
      case atStart => exact ⟨0, Nat.zero_le _, rfl, Inv.start w k F ad0 av0 ap0 ha0 hv0 hp0⟩
      case round =>
        clear ha0 hv0 hp0
        obtain ⟨i, hi, rfl, hI⟩ := hrel
        have HI : Hid (Inv w wr k i F) := hI
        clear hI
        by_cases hik : i < k
        · rcases HF.out.ok with h0 | ⟨b, o, rfl, hfc, hall⟩
          · omega
          · obtain ⟨⟨c0, c1, c2, c3, c4, c5⟩, hbo, ⟨hs0, hs1, hs2, hs3, hs4⟩⟩ := hall i hik
            obtain ⟨hl1, hl2⟩ := HL.out i hik
            clear hall hs3 hs4
            have hb := HI.out.below
            have hsz := hb.size
            obtain ⟨ad, a1, a2, _⟩ := HI.out.defs
            obtain ⟨av, b1, b2, _⟩ := HI.out.vals
            obtain ⟨ap, p1, p2, _⟩ := HI.out.parts
            have hB3 : w.heap.size + 3 ≤ wr.heap.size := (Array.getElem?_eq_some_iff.1 p2).1
            replace c0 := (hb.cell (lt_of_cell c0)).trans c0
            replace c1 := (hb.cell (lt_of_cell c1)).trans c1
            replace c2 := (hb.cell (lt_of_cell c2)).trans c2
            replace c3 := (hb.cell (lt_of_cell c3)).trans c3
            replace c4 := (hb.cell (lt_of_cell c4)).trans c4
            replace c5 := (hb.cell (lt_of_cell c5)).trans c5
            have hbl := lt_of_cell c0
            obtain ⟨x0, o0⟩ := cell_some a2 (j := i * 3) (by omega)
            obtain ⟨x1, o1⟩ := cell_some a2 (j := i * 3 + 1) (by omega)
            obtain ⟨x2, o2⟩ := cell_some a2 (j := i * 3 + 2) (by omega)
            obtain ⟨xv, ov⟩ := cell_some b2 (j := i) (by omega)
            obtain ⟨xp, op⟩ : ∃ x, wr.cell? ⟨w.heap.size + 1 + 1, i, none⟩ = some x := cell_some p2 (by omega)
            have z0 := not_frozen a2 (i * 3)
            have z1 := not_frozen a2 (i * 3 + 1)
            have z2 := not_frozen a2 (i * 3 + 2)
            have zv := not_frozen b2 i
            have zp : wr.frozen? ⟨w.heap.size + 1 + 1, i, none⟩ = false := not_frozen p2 i
            clear a1 a2 b1 b2 p1 p2
            have hD1 : w.heap.size < wr.heap.size := by omega
            have hD2 : w.heap.size + 1 < wr.heap.size := by omega
            have hD3 : w.heap.size + 1 + 1 < wr.heap.size := by omega
            have hbo' : Hid (BOk w (F i)) := hbo
            clear hbo
            have h5 : (F i).kind % 5 = 0 ∨ (F i).kind % 5 = 1 ∨ (F i).kind % 5 = 2 ∨ (F i).kind % 5 = 3 ∨ (F i).kind % 5 = 4 := by omega
            rcases h5 with h | h | h | h | h
            · have Hk : Hid ((F i).kind % 5 = 0) := h
              have hr : Int.tmod ((F i).kind : Int) 5 = 0 := rem5 h
              have hN := szOf_cases (F i).size
              have hu := u64of_wrap (F i).I
              clear h
              go_wp2_with fail
              refine (sizeC (F i).size hs1 _).mono ?_
              rintro e w1 ⟨rfl, hw⟩
              subst w1
              obtain ⟨N, hNs⟩ : ∃ N, N = szOf (F i).size := ⟨_, rfl⟩
              rw [← hNs] at hN ⊢
              have HN : Hid (N = szOf (F i).size) := hNs
              clear hNs
              go_wp2_with fail
              refine (beC (u64of (F i).I) N (u64of_lt _) hN _).mono ?_
              rintro e w1 ⟨q, rfl, hq, hqc, hb1⟩
              obtain ⟨ap', p1, p2, _⟩ := HI.out.parts
              have st1 := St.then ((((((St.refl hB3).setD).setD).setD).setV rfl).alloc _) (hb1.mono (by simp))
              have p3 := st1.parts ap' p2
              obtain ⟨xq, oq⟩ : ∃ x, w1.cell? ⟨w.heap.size + 1 + 1, i, none⟩ = some x := cell_some p3 (by rw [id]; omega)
              have zq : w1.frozen? ⟨w.heap.size + 1 + 1, i, none⟩ = false := not_frozen p3 i
              have hlp := lt_of_cell oq
              simp at hq
              obtain ⟨b0, br, hbr⟩ := be_cons (u64of (F i).I) hN
              have Hbr : Hid (beN (u64of (F i).I) N = b0 :: br) := hbr
              rw [hbr] at hqc
              have Hqc : Hid (w1.heap[q]? = some (.cells ((b0 :: br).map cellOf).toArray 5 (0, 0))) := hqc
              have cq : w1.cell? ⟨q, 0, none⟩ = some (.int .u8 (b0.toNat : Int)) := cell_block hqc
              have zq0 : w1.frozen? ⟨q, 0, none⟩ = false := not_frozen hqc 0
              have hqP : q ≠ w.heap.size + 1 + 1 := by omega
              have hN0 : 0 < N := by omega
              have hx8 := xor8 b0
              have hql := lt_of_cell cq
              clear hb1 p1 p2 p3 hqc hbr
              go_wp2
              go_roundw
              case rel =>
                have ep : partF (F i) = flip1 (b0 :: br) := by rw [← Hbr.out, ← be_flip _ _ hN, HN.out]; simp [partF, Hk.out, xr]
                exact ⟨i + 1, by omega, by go_num, HI.out.next hik ((st1.setNew (by omega)).setP rfl) (by simp [tyOf, Hk.out]) (by rw [HN.out]; simp [szF, Hk.out]) (by simp [ValOk, Hk.out]) (by
                  rw [ep]
                  refine part_block ?_ (by omega) (by show N = (b0 :: br).length; rw [← Hbr.out, beN_length])
                  rw [Below.heap_setCell _ _ _ _ (show q ≠ w.heap.size + 1 + 1 from hqP)]
                  exact heap_setCell_same _ _ _ _ _ _ Hqc.out)⟩
              case measure => simp [intOf]; omega
            · have Hk : Hid ((F i).kind % 5 = 1) := h
              have hr : Int.tmod ((F i).kind : Int) 5 = 1 := rem5 h
              have hN := szOf_cases (F i).size
              clear h
              go_wp2_with fail
              refine (sizeC (F i).size hs1 _).mono ?_
              rintro e w1 ⟨rfl, hw⟩
              subst w1
              obtain ⟨N, hNs⟩ : ∃ N, N = szOf (F i).size := ⟨_, rfl⟩
              rw [← hNs] at hN ⊢
              have HN : Hid (N = szOf (F i).size) := hNs
              clear hNs
              go_wp2_with fail
              refine (beC (F i).U N hs2 hN _).mono ?_
              rintro e w1 ⟨q, rfl, hq, hqc, hb1⟩
              obtain ⟨ap', p1, p2, _⟩ := HI.out.parts
              have st1 := St.then ((((((St.refl hB3).setD).setD).setD).setV rfl).alloc _) (hb1.mono (by simp))
              have p3 := st1.parts ap' p2
              obtain ⟨xq, oq⟩ : ∃ x, w1.cell? ⟨w.heap.size + 1 + 1, i, none⟩ = some x := cell_some p3 (by rw [id]; omega)
              have zq : w1.frozen? ⟨w.heap.size + 1 + 1, i, none⟩ = false := not_frozen p3 i
              have hlp := lt_of_cell oq
              simp at hq
              have Hqc : Hid (w1.heap[q]? = some (.cells ((beN (F i).U N).map cellOf).toArray 5 (0, 0))) := hqc
              clear hb1 p1 p2 p3 hqc
              go_wp2
              go_roundw
              case rel =>
                have ep : partF (F i) = beN (F i).U N := by rw [HN.out]; simp [partF, Hk.out]
                exact ⟨i + 1, by omega, by go_num, HI.out.next hik (st1.setP rfl) (by simp [tyOf, Hk.out]) (by rw [HN.out]; simp [szF, Hk.out]) (by simp [ValOk, Hk.out]) (by rw [ep]; exact part_block (by rw [Below.heap_setCell _ _ _ _ (show q ≠ w.heap.size + 1 + 1 by omega)]; exact Hqc.out) (by omega) (beN_length _ _).symm)⟩
              case measure => simp [intOf]; omega
            · have Hk : Hid ((F i).kind % 5 = 2) := h
              have hr : Int.tmod ((F i).kind : Int) 5 = 2 := rem5 h
              obtain ⟨cf, row, fr, hcv, hrow⟩ := conv_bytes (F i).S
              have Hrow : Hid (∀ W j (hj : j < (strOf (F i).S).length), (row W)[j]? = some (cellOf (strOf (F i).S)[j])) := hrow
              clear h hrow
              go_wp2
              go_roundw
              case rel =>
                have ep : partF (F i) = strOf (F i).S := by simp [partF, Hk.out]
                exact ⟨i + 1, by omega, by go_num, HI.out.next hik ((((((((St.refl hB3).setD).setD).setD).setV rfl).setP rfl).alloc _).alloc _).drew (by simp [tyOf, Hk.out]) (by simp [szF, Hk.out]) (by simp [ValOk, Hk.out]) (by rw [ep]; exact part_new (by simp) (by omega) (strOf_length _).symm (Hrow.out _))⟩
              case measure => simp [intOf]; omega
            · have Hk : Hid ((F i).kind % 5 = 3) := h
              have hr : Int.tmod ((F i).kind : Int) 5 = 3 := rem5 h
              obtain ⟨q, hq⟩ : ∃ q, q = (F i).size % 16 := ⟨_, rfl⟩
              have hr16 : Int.tmod ((F i).size : Int) 16 = (q : Int) := by rw [hq]; rfl
              have hq16 : q < 16 := by omega
              have Hq : Hid (q = (F i).size % 16) := hq
              clear h hq
              have hmk : ∀ W : World, (Instr.makeSlice 23 (.int .i64 (1 + (q : Int) + 2)) (.int .i64 (1 + (q : Int) + 2))).run Yba.prog W = .ok (.slice (some ⟨W.heap.size, 0, none⟩) (q + 3) (q + 3)) (W.alloc (.cells (List.replicate (q + 3) (Value.int .u8 0)).toArray 5)) := fun W => by
                have := make_byte (q + 3) (by omega) W
                rwa [show ((q + 3 : Nat) : Int) = 1 + (q : Int) + 2 by omega] at this
              by_cases hc : 1 + q < (F i).S.size
              · obtain ⟨T, hT⟩ : ∃ T, (F i).S.extract 0 (1 + q) = T := ⟨_, rfl⟩
                have HT : Hid (cutS (F i).S (1 + q) = T) := by rw [← hT]; exact if_pos hc
                have hTl : T.size ≤ 1 + q := by rw [← HT.out]; exact cutS_le _ _
                obtain ⟨rw0, hrw⟩ : ∃ r, r = ((strOf T).map cellOf ++ (List.replicate (q + 3) (Value.int .u8 0)).drop T.size).toArray := ⟨_, rfl⟩
                have hcp : ∀ W : World, wr.heap.size + 1 = W.heap.size → (Builtin.copy_ #[23, 9] 3 #[.slice (some ⟨wr.heap.size + 1, 0, none⟩) (q + 3) (q + 3), .string T]).run Yba.prog (W.alloc (.cells (Array.replicate (q + 3) (Value.int .u8 0)) 5)) = .ok (goInt T.size) (W.alloc (.cells rw0 5)) := fun W hW => by
                  rw [hrw]; exact copy_str T _ q (by omega) W hW
                have hrs : rw0.size = q + 3 := by rw [hrw]; simp [strOf_length]; omega
                have Hrw : Hid (rw0 = ((strOf T).map cellOf ++ (List.replicate (q + 3) (Value.int .u8 0)).drop T.size).toArray) := hrw
                have e1 : rw0[1 + q]? = some rw0[1 + q] := Array.getElem?_eq_getElem (by omega)
                have e2 : rw0[1 + q + 1]? = some rw0[1 + q + 1] := Array.getElem?_eq_getElem (by omega)
                generalize rw0[1 + q] = y1 at e1
                generalize rw0[1 + q + 1] = y2 at e2
                clear hrw
                go_wp2
                go_roundw
                case rel =>
                  have ev : cutS (F i).S (1 + (F i).size % 16) = T := by rw [← Hq.out]; first | exact HT.out | (rw [hT]; exact HT.out)
                  have ez : szF (F i) = 1 + q := by rw [Hq.out]; simp [szF, Hk.out]
                  have ep : partF (F i) = strPart T (1 + q) := by simp only [partF, Hk.out, Nat.reduceEqDiff, if_false, if_true, ev]; rw [← Hq.out]
                  have v1 : Value.int .u8 ((T.size : Int) / 256) = cellOf (lo (T.size / 256 ^ 1)) := by rw [cell_lo]; exact congrArg (Value.int .u8) (by simp only [Nat.pow_one]; omega)
                  have v2 : Value.int .u8 (T.size : Int) = cellOf (lo (T.size / 256 ^ 0)) := by rw [cell_lo]; exact congrArg (Value.int .u8) (by simp only [Nat.pow_zero, Nat.div_one]; omega)
                  exact ⟨i + 1, by omega, by go_num, HI.out.next hik ((((((((St.refl hB3).setD).setD).setD).setV rfl).setP rfl).alloc _).alloc _) (by simp [tyOf, Hk.out]) (by rw [ez]; omega) (by simp only [ValOk, Hk.out, Nat.reduceEqDiff, if_false, if_true, ev]) (by
                    rw [ep]
                    refine part_block ?_ (by omega) (by simp only [strPart, List.length_append, strOf_length, List.length_replicate, beN_length]; omega)
                    rw [v1, v2, Hrw.out, str_row T q hTl]
                    exact new_at _ (by simp) _)⟩
                case measure => simp [intOf]; omega
              · obtain ⟨T, hT⟩ : ∃ T, (F i).S = T := ⟨_, rfl⟩
                have HT : Hid (cutS (F i).S (1 + q) = T) := by rw [← hT]; exact if_neg hc
                have hTl : T.size ≤ 1 + q := by rw [← HT.out]; exact cutS_le _ _
                obtain ⟨rw0, hrw⟩ : ∃ r, r = ((strOf T).map cellOf ++ (List.replicate (q + 3) (Value.int .u8 0)).drop T.size).toArray := ⟨_, rfl⟩
                have hcp : ∀ W : World, wr.heap.size + 1 = W.heap.size → (Builtin.copy_ #[23, 9] 3 #[.slice (some ⟨wr.heap.size + 1, 0, none⟩) (q + 3) (q + 3), .string T]).run Yba.prog (W.alloc (.cells (Array.replicate (q + 3) (Value.int .u8 0)) 5)) = .ok (goInt T.size) (W.alloc (.cells rw0 5)) := fun W hW => by
                  rw [hrw]; exact copy_str T _ q (by omega) W hW
                have hrs : rw0.size = q + 3 := by rw [hrw]; simp [strOf_length]; omega
                have Hrw : Hid (rw0 = ((strOf T).map cellOf ++ (List.replicate (q + 3) (Value.int .u8 0)).drop T.size).toArray) := hrw
                have e1 : rw0[1 + q]? = some rw0[1 + q] := Array.getElem?_eq_getElem (by omega)
                have e2 : rw0[1 + q + 1]? = some rw0[1 + q + 1] := Array.getElem?_eq_getElem (by omega)
                generalize rw0[1 + q] = y1 at e1
                generalize rw0[1 + q + 1] = y2 at e2
                clear hrw
                go_wp2
                go_roundw
                case rel =>
                  have ev : cutS (F i).S (1 + (F i).size % 16) = T := by rw [← Hq.out]; first | exact HT.out | (rw [hT]; exact HT.out)
                  have ez : szF (F i) = 1 + q := by rw [Hq.out]; simp [szF, Hk.out]
                  have ep : partF (F i) = strPart T (1 + q) := by simp only [partF, Hk.out, Nat.reduceEqDiff, if_false, if_true, ev]; rw [← Hq.out]
                  have v1 : Value.int .u8 ((T.size : Int) / 256) = cellOf (lo (T.size / 256 ^ 1)) := by rw [cell_lo]; exact congrArg (Value.int .u8) (by simp only [Nat.pow_one]; omega)
                  have v2 : Value.int .u8 (T.size : Int) = cellOf (lo (T.size / 256 ^ 0)) := by rw [cell_lo]; exact congrArg (Value.int .u8) (by simp only [Nat.pow_zero, Nat.div_one]; omega)
                  exact ⟨i + 1, by omega, by go_num, HI.out.next hik ((((((((St.refl hB3).setD).setD).setD).setV rfl).setP rfl).alloc _).alloc _) (by simp [tyOf, Hk.out]) (by rw [ez]; omega) (by simp only [ValOk, Hk.out, Nat.reduceEqDiff, if_false, if_true, ev]) (by
                    rw [ep]
                    refine part_block ?_ (by omega) (by simp only [strPart, List.length_append, strOf_length, List.length_replicate, beN_length]; omega)
                    rw [v1, v2, Hrw.out, str_row T q hTl]
                    exact new_at _ (by simp) _)⟩
                case measure => simp [intOf]; omega
            · have Hk : Hid ((F i).kind % 5 = 4) := h
              have hr : Int.tmod ((F i).kind : Int) 5 = 4 := rem5 h
              obtain ⟨i5, hi5, hs5, hby5, hz5⟩ := info5
              obtain ⟨hn1, hn2⟩ := hbo'.out
              clear h
              rcases hba : (F i).ba with _ | ad
              · obtain ⟨e1, e2⟩ := hn1 hba
                have HB : Hid ((F i).B = []) := e1
                rw [hba, e1, e2] at c5
                simp only [List.length_nil] at c5
                clear hn1 hn2 e1 e2 hl2 hba
                go_wp2_with (at_builtin; first | refine wpList_append_own_none rfl (.const (.slice none 0 0)) (.tmp 79) 23 rfl (w.heap.size + 3) 5 i5 1 Yba.underlying23 hi5 (.slice none 0 0) 0 [] rfl (World.ownsRow_nil _ _ _ _) rfl ?_ | refine wpList_append_own_none rfl (.const (.slice none 0 0)) (.tmp 95) 23 rfl (w.heap.size + 3) 5 i5 1 Yba.underlying23 hi5 (.slice none 0 0) 0 [] rfl (World.ownsRow_nil _ _ _ _) rfl ?_)
                go_roundw
                case rel =>
                  have ep : partF (F i) = [] := by simp [partF, Hk.out, HB.out]
                  have hnil : ∀ W : World, PartOk W (w.heap.size + 3) (.slice none 0 0) [] := fun W => (Own.nil W _).part
                  exact ⟨i + 1, by omega, by go_num, HI.out.next hik (((((((St.refl hB3).setD).setD).setD).setV rfl).setP rfl).alloc _) (by simp [tyOf, Hk.out]) (by simp [szF, Hk.out, HB.out]) (by simp only [ValOk, Hk.out, Nat.reduceEqDiff, if_false, HB.out]; exact ⟨_, rfl, hnil _⟩) (by rw [ep]; exact hnil _)⟩
                case measure => simp [intOf]; omega
              · have HB : Hid (∀ j (hj : j < (F i).B.length), w.cell? (ad.add j) = some (cellOf (F i).B[j])) := hn2 ad hba
                rw [hba] at c5
                clear hn1 hn2 hba
                have hnews : ∀ W, Below w.heap.size w W → ∀ j u, ((F i).B.map cellOf)[j]? = some u → W.cell? (ad.add j) = some u := by
                  intro W hW j u hj
                  have hjl : j < (F i).B.length := by
                    have := (List.getElem?_eq_some_iff.1 hj).1
                    simpa using this
                  have h0 := HB.out j hjl
                  rw [List.getElem?_map, List.getElem?_eq_getElem hjl] at hj
                  cases hj
                  exact (hW.cell (lt_cell h0)).trans h0
                have Hnews : Hid (∀ W, Below w.heap.size w W → ∀ j u, ((F i).B.map cellOf)[j]? = some u → W.cell? (ad.add j) = some u) := hnews
                clear hnews
                go_wp2_with (at_builtin; refine wpList_append_own _ rfl (.const (.slice none 0 0)) (.tmp 79) 23 rfl (w.heap.size + 3) 5 i5 (.int .u8 0) 1 1 Yba.underlying23 hi5 hz5 hs5 hby5 rfl (by decide) (.slice none 0 0) 0 [] rfl (World.ownsRow_nil _ _ _ _) ad (F i).B.length (F i).bc ((F i).B.map cellOf) rfl (by simp) ?c1 (map_one _) ?c3 ?c4 ?c5 ?_)
                case c1 => exact Hnews.out _ (hb.alloc hsz _)
                case c3 => unfold maxLen; omega
                case c4 => omega
                case c5 => simp; omega
                intro v' w1 hown hgr _
                have hO1 : Own w1 (w.heap.size + 3) v' (F i).B := by
                  have := own_app (l := []) (m := (F i).B) (by simp) hown
                  simpa using this
                have hb1 := grown_below hgr (B := wr.heap.size) (fun k e => by cases e) (by simp)
                have hc5 := (hb1.mono (Nat.le_refl _))
                have bx : w1.heap[wr.heap.size]? = some (.cells #[.int .u8 ((F i).kind : Int), .int .u8 ((F i).size : Int), .int .i64 (F i).I, .int .u64 ((F i).U : Int), .string (F i).S, .slice (some ad) (F i).B.length (F i).bc] 26 (0, 0)) :=
                  (hgr.block wr.heap.size (by simp) (fun e => by cases e)).trans (heap_alloc_new wr _)
                obtain ⟨a', c', rfl⟩ := hO1.slice
                have st1 := St.then ((St.refl hB3).alloc _) hb1
                have hbw1 : Below w.heap.size w w1 := (hb.alloc hsz _).trans (hb1.mono (by omega))
                have hwl := hb1.size
                obtain ⟨ad', a1, a2, _⟩ := HI.out.defs
                obtain ⟨av', b1, b2, _⟩ := HI.out.vals
                obtain ⟨ap', p1, p2, _⟩ := HI.out.parts
                have a3 := st1.defs ad' a2
                have b3 := st1.vals av' b2
                have p3 := st1.parts ap' p2
                obtain ⟨y0, n0⟩ := cell_some a3 (j := i * 3) (by rw [id]; omega)
                obtain ⟨y1, n1⟩ := cell_some a3 (j := i * 3 + 1) (by rw [id]; omega)
                obtain ⟨y2, n2⟩ := cell_some a3 (j := i * 3 + 2) (by rw [id]; omega)
                obtain ⟨yv, nv⟩ := cell_some b3 (j := i) (by rw [id]; omega)
                have m0 := not_frozen a3 (i * 3)
                have m1 := not_frozen a3 (i * 3 + 1)
                have m2 := not_frozen a3 (i * 3 + 2)
                have mv := not_frozen b3 i
                have k5 : w1.cell? ⟨wr.heap.size, 5, none⟩ = some (.slice (some ad) (F i).B.length (F i).bc) := cell_block bx
                have hlk := lt_of_cell k5
                have HP1 : Hid (PartOk w1 (w.heap.size + 3) (.slice a' (F i).B.length c') (F i).B) := hO1.part
                clear a1 a2 a3 b1 b2 b3 p1 p2 p3 hown hgr hc5 bx hO1 hb1 o0 o1 o2 ov op z0 z1 z2 zv zp
                have hE1 : w.heap.size < w1.heap.size := by omega
                have hE2 : w.heap.size + 1 < w1.heap.size := by omega
                have hE3 : w.heap.size + 1 + 1 < w1.heap.size := by omega
                have hE4 : ¬ wr.heap.size = w.heap.size := by omega
                have hE5 : ¬ wr.heap.size = w.heap.size + 1 := by omega
                go_wp2_with (at_builtin; refine wpList_append_own _ rfl (.const (.slice none 0 0)) (.tmp 95) 23 rfl (w.heap.size + 3) 5 i5 (.int .u8 0) 1 1 Yba.underlying23 hi5 hz5 hs5 hby5 rfl (by decide) (.slice none 0 0) 0 [] rfl (World.ownsRow_nil _ _ _ _) ad (F i).B.length (F i).bc ((F i).B.map cellOf) rfl (by simp) ?c1 (map_one _) ?c3 ?c4 ?c5 ?_)
                case c1 => exact Hnews.out _ (below_setCell (below_setCell (below_setCell (below_setCell hbw1 (Nat.le_refl _)) (Nat.le_refl _)) (Nat.le_refl _)) (by omega))
                case c3 => unfold maxLen; omega
                case c4 => omega
                case c5 => simp; omega
                intro v2 w2 hown2 hgr2 _
                have hO2 : Own w2 (w.heap.size + 3) v2 (F i).B := by
                  have := own_app (l := []) (m := (F i).B) (by simp) hown2
                  simpa using this
                obtain ⟨a2', c2', rfl⟩ := hO2.slice
                have hb2 := grown_below hgr2 (B := w1.heap.size) (fun k e => by cases e) (by simp)
                have st2 := St.then ((((st1.setD).setD).setD).setV rfl) (hb2.mono (by omega))
                have st3 := St.then (((((St.refl (B := w.heap.size) (wr := w1) (by omega)).setD).setD).setD).setV rfl) hb2
                obtain ⟨ap', p1, p2, _⟩ := HI.out.parts
                have p3 := st2.parts ap' p2
                obtain ⟨yp, np⟩ : ∃ x, w2.cell? ⟨w.heap.size + 1 + 1, i, none⟩ = some x := cell_some p3 (by rw [id]; omega)
                have mp : w2.frozen? ⟨w.heap.size + 1 + 1, i, none⟩ = false := not_frozen p3 i
                have hlp := lt_of_cell np
                have HP2 : Hid (PartOk w2 (w.heap.size + 3) (.slice a2' (F i).B.length c2') (F i).B) := hO2.part
                clear p1 p2 p3 hown2 hgr2 hO2 hb2
                go_wp2
                go_roundw
                case rel =>
                  have ep : partF (F i) = (F i).B := by simp [partF, Hk.out]
                  have up3 := (st2.setP (k := i) (u := .slice a2' (F i).B.length c2') (V := w.heap.size + 1 + 1) rfl)
                  have hs2 := (st3.setP (k := i) (u := .slice a2' (F i).B.length c2') (V := w.heap.size + 1 + 1) rfl)
                  exact ⟨i + 1, by omega, by go_num, HI.out.next hik up3 (by simp [tyOf, Hk.out]) (by simp [szF, Hk.out]) (by simp only [ValOk, Hk.out, Nat.reduceEqDiff, if_false]; exact ⟨_, rfl, hs2.up.part hs2.below.size HP1.out⟩) (by rw [ep]; exact Up.part (fun K hK _ => Below.heap_setCell _ _ _ _ (show K ≠ w.heap.size + 1 + 1 by omega)) (by simp [World.setCell]) HP2.out)⟩
                case measure => simp [intOf]; omega
        · as_aux_lemma =>
            obtain rfl : i = k := by omega
            have hb := HI.out.below
            have hsz := hb.size
            have Hsm : Hid (∀ t, t < i → Small (F t) ∧ Little (F t)) := by
              intro t ht
              rcases HF.out.ok with h0 | ⟨b, o, _, _, hall⟩
              · omega
              · exact ⟨(hall t ht).2.2, HL.out t ht⟩
            have Hprt : Hid (w.heap.size + 3 ≤ wr.heap.size ∧ ∀ j, j < i → ∃ v, wr.cell? ⟨w.heap.size + 1 + 1, j, none⟩ = some v ∧ PartOk wr (w.heap.size + 3) v (partF (F j))) := by
              obtain ⟨ap, p1, p2, p4⟩ := HI.out.parts
              refine ⟨(Array.getElem?_eq_some_iff.1 p2).1, fun j hj => ?_⟩
              obtain ⟨v, h1, h2⟩ := p4 j hj
              refine ⟨v, ?_, h2⟩
              show wr.cell? ⟨w.heap.size + 2, j, none⟩ = some v
              simp only [World.cell?, p2]
              exact h1
            have hB3 := Hprt.out.1
            obtain ⟨W2, hW2⟩ : ∃ W, W = wr := ⟨_, rfl⟩
            subst hW2
            by_cases hi0 : i = 0
            · subst hi0
              go_wp2
              go_loopw [20, 21] (fun v20 v21 wr => v20 = .slice none 0 0 ∧ v21 = .int .i64 0 ∧ wr = W2) (fun _ _ _ => 0)
              case atStart => exact ⟨rfl, rfl, rfl⟩
              case round =>
                obtain ⟨rfl, rfl, hw4⟩ := hrel
                subst wr
                have HFL : ∀ {W : World} {B : Nat} {v : Value}, Own W B v (flat (fun j => partF (F ((fun t => t) j))) 0) → Own W B v [] := fun h => h
                have hnil := Own.nil W2 W2.heap.size
                go_wp2_with fail
                refine (fin_key (k := 0) (N := 0) (po := none) (pc := 0) (p := (fun t => t)) (T := W2.heap.size + 1) (D := W2.heap.size) HI.out (((((Below.refl W2.heap.size W2).alloc ?q1 _).alloc ?q2 _).alloc ?q3 _).alloc ?q4 _) Hsm.out ?hpos (by omega) (by omega) ?x0 ?x3 ?t2 ?d0 ?r1).mono ?_
                case q1 => omega
                case q2 => simp <;> omega
                case q3 => simp <;> omega
                case q4 => simp <;> omega
                case hpos => exact .inl rfl
                case x0 => simp [go_sem]
                case x3 => simp [go_sem]
                case t2 => simp [go_sem]
                case d0 => simp [go_sem]
                case r1 => simp [go_sem]
                rintro e w6 ⟨v6, rfl, hO6, hb6⟩
                obtain ⟨a6, c6, rfl⟩ := hO6.slice
                have hOw : Own w6 W2.heap.size (.slice none 0 0) ([] : List UInt8) := (((((hnil.alloc _).alloc _).alloc _).alloc _).later hb6)
                have hBz : Hid (Below w.heap.size w w6) := hb.trans ((((((((Below.refl W2.heap.size W2).alloc (by omega) _).alloc (by simp <;> omega) _).alloc (by simp <;> omega) _).alloc (by simp <;> omega) _).trans (hb6.mono (by simp <;> omega))).mono hsz))
                have HO6 : Hid (Own w6 _ _ ([] : List UInt8)) := HFL hO6
                have HOw : Hid (Own w6 W2.heap.size (.slice none 0 0) ([] : List UInt8)) := hOw
                clear hO6 hOw hb6
                go_wp2_with fail
                refine (equalC _ _ _ _ _ w6 HO6.out HOw.out).mono ?_
                rintro e w7 ⟨rfl, hw7⟩
                subst w7
                go_wp2
                go_ret
                exact ⟨rfl, hBz.out⟩
            · obtain ⟨i3, hi3, hs3, hby3, hz3⟩ := info3
              obtain ⟨i5, hi5, hs5, hby5, hz5⟩ := info5
              have hipos : 0 < i := by omega
              go_wp2
              go_loopw [18, 19] (fun v18 v19 wr => ∃ j : Nat, j ≤ m ∧ v19 = .int .i64 (j : Int) ∧ ∃ a c, v18 = .slice a j c ∧ OwnI wr W2.heap.size (.slice a j c) (fun t => g t % i) j ∧ Below W2.heap.size W2 wr) (fun _ v19 _ => m - (intOf v19).toNat)
              case atStart => exact ⟨0, Nat.zero_le _, rfl, none, 0, rfl, World.ownsRow_nil _ _ _ _, Below.refl _ _⟩
              case round =>
                obtain ⟨j, hj, rfl, a, c, rfl, hO, hb3⟩ := hrel
                have HO : Hid (OwnI wr W2.heap.size (.slice a j c) (fun t => g t % i) j) := hO
                have hb3s := hb3.size
                clear hO
                by_cases hjm : j < m
                · rcases HP.out.ok with h0 | ⟨pb, pof, rfl, hpc, hpa⟩
                  · omega
                  · obtain ⟨hcell, hg⟩ := hpa j hjm
                    have hcell' := ((hb.trans (hb3.mono hsz)).cell (lt_of_cell hcell)).trans hcell
                    obtain ⟨r, hr⟩ : ∃ r, r = g j % i := ⟨_, rfl⟩
                    have hrm : Int.tmod (g j : Int) (i : Int) = (r : Int) := by rw [hr]; rfl
                    have hrl : r < i := by rw [hr]; exact Nat.mod_lt _ (by omega)
                    have Hr : Hid (r = g j % i) := hr
                    have hbl := lt_of_cell hcell'
                    clear hpa hcell hr
                    go_wp2_with (at_builtin; refine wpList_append_own _ rfl (.tmp 231) (.tmp 240) 36 rfl W2.heap.size 3 i3 (.int .i64 0) 1 8 Yba.underlying36 hi3 hz3 hs3 hby3 rfl (by decide) (.slice a j c) j (posL (fun t => g t % i) j) rfl (World.ownsRow.alloc HO.out _) ⟨wr.heap.size, 0, none⟩ 1 1 [.int .i64 (r : Int)] rfl rfl ?c1 ?c2 ?c3 ?c4 ?c5 ?_)
                    case c1 => exact one_new3
                    case c2 => intro u hu; simp only [List.mem_singleton] at hu; subst hu; rfl
                    case c3 => unfold maxLen; omega
                    case c4 => omega
                    case c5 => simp; omega
                    intro v' w1 hown hgr _
                    have hO1 : OwnI w1 W2.heap.size v' (fun t => g t % i) (j + 1) := OwnI.push (by rw [Hr.out]) hown
                    obtain ⟨a2, c2, rfl⟩ := hO1.slice
                    have HO1 : Hid (OwnI w1 W2.heap.size (.slice a2 (j + 1) c2) (fun t => g t % i) (j + 1)) := hO1
                    have hb4 : Hid (Below W2.heap.size W2 w1) := (hb3.alloc hb3s _).trans (grown_below hgr (fun k hk => (World.ownsRow.lt HO.out k hk).1) (by simp; omega))
                    clear hO1 hown hgr
                    go_wp2
                    go_roundw
                    case rel => exact ⟨j + 1, by omega, by go_num, a2, c2, rfl, HO1.out, hb4.out⟩
                    case measure => simp [intOf]; omega
                · obtain rfl : j = m := by omega
                  have HC : Hid (j = 0 ∨ ∃ P, a = some ⟨P, 0, none⟩ ∧ j ≤ c ∧ ∀ t, t < j → wr.cell? ⟨P, t, none⟩ = some (.int .i64 ((g t % i : Nat) : Int))) := HO.out.cells
                  obtain ⟨W3, hW3⟩ : ∃ W, W = wr := ⟨_, rfl⟩
                  subst hW3
                  clear HO
                  obtain ⟨prt, hprt⟩ : ∃ prt : Nat → List UInt8, prt = fun t => partF (F (g t % i)) := ⟨_, rfl⟩
                  have HQ : Hid (prt = fun t => partF (F (g t % i))) := hprt
                  have HLp : Hid (∀ t, t < j → (prt t).length ≤ 2048) := by
                    intro t ht
                    rw [hprt]
                    have := Hsm.out (g t % i) (Nat.mod_lt _ (by omega))
                    exact part_le this.2.1 this.2.2
                  clear hprt
                  go_wp2
                  go_loopw [20, 21] (fun v20 v21 wr => ∃ t : Nat, t ≤ j ∧ v21 = .int .i64 (t : Int) ∧ ∃ a' c', v20 = .slice a' (flat prt t).length c' ∧ Own wr W3.heap.size (.slice a' (flat prt t).length c') (flat prt t) ∧ Below W3.heap.size W3 wr) (fun _ v21 _ => j - (intOf v21).toNat)
                  case atStart => exact ⟨0, Nat.zero_le _, rfl, none, 0, rfl, Own.nil _ _, Below.refl _ _⟩
                  case round =>
                    obtain ⟨t, ht, rfl, a4, c4, rfl, hO, hb5⟩ := hrel
                    have HO : Hid (Own wr W3.heap.size (.slice a4 (flat prt t).length c4) (flat prt t)) := hO
                    have hb5s := hb5.size
                    have hfl := flat_le HLp.out t ht
                    clear hO
                    by_cases htj : t < j
                    · rcases HC.out with h0 | ⟨P, rfl, hjc, hPc⟩
                      · omega
                      · have hpt := (hb5.cell (lt_of_cell (hPc t htj))).trans (hPc t htj)
                        obtain ⟨r, hr⟩ : ∃ r, r = g t % i := ⟨_, rfl⟩
                        have hrl : r < i := by rw [hr]; exact Nat.mod_lt _ (by omega)
                        obtain ⟨v, hv1, hv2⟩ := Hprt.out.2 r hrl
                        have hv3 := ((hb3.trans (hb5.mono hb3s)).cell (lt_of_cell hv1)).trans hv1
                        obtain ⟨pa, pcc, rfl, hq1, hq2⟩ := hv2.later (hb3.trans (hb5.mono hb3s))
                        rw [← hr] at hpt
                        have Hpr : Hid (partF (F r) = prt t) := by show _ = _; rw [HQ.out, hr]
                        rw [Hpr.out] at hv3 hq1 hq2
                        have hLt := HLp.out t htj
                        have hPl := lt_of_cell hpt
                        have HPc : Hid (∀ t, t < j → W3.cell? ⟨P, t, none⟩ = some (.int .i64 ((g t % i : Nat) : Int))) := hPc
                        clear hPc hv1 hv2 hr
                        cases pa with
                        | none =>
                          obtain ⟨h1, h2⟩ := hq1 rfl
                          have h3 : (prt t).length = 0 := by rw [h1]; rfl
                          rw [h3, h2] at hv3
                          have hfe : Hid (flat prt (t + 1) = flat prt t) := by show flat prt t ++ prt t = _; rw [h1, List.append_nil]
                          clear hq1 hq2 h1 h2 h3
                          go_wp2_with (at_builtin; refine wpList_append_own_none rfl (.tmp 248) (.tmp 255) 23 rfl W3.heap.size 5 i5 1 Yba.underlying23 hi5 (.slice a4 (flat prt t).length c4) (flat prt t).length ((flat prt t).map cellOf) rfl HO.out rfl ?_)
                          go_wp2
                          go_roundw
                          case rel => exact ⟨t + 1, by omega, by go_num, a4, c4, by rw [hfe.out], by rw [hfe.out]; exact HO.out, hb5⟩
                          case measure => simp [intOf]; omega
                        | some ad =>
                          obtain ⟨K, rfl, hK1, hK2, hK3⟩ := hq2 ad rfl
                          have HB : Hid (∀ j (hj : j < (prt t).length), wr.cell? ⟨K, j, none⟩ = some (cellOf (prt t)[j])) := hK3
                          clear hq1 hq2 hK3
                          go_wp2_with (at_builtin; refine wpList_append_own _ rfl (.tmp 248) (.tmp 255) 23 rfl W3.heap.size 5 i5 (.int .u8 0) 1 1 Yba.underlying23 hi5 hz5 hs5 hby5 rfl (by decide) (.slice a4 (flat prt t).length c4) (flat prt t).length ((flat prt t).map cellOf) rfl HO.out ⟨K, 0, none⟩ (prt t).length pcc ((prt t).map cellOf) rfl (by simp) ?c1 (map_one _) ?c3 ?c4 ?c5 ?_)
                          case c1 =>
                            intro j' u hj'
                            have hjl : j' < (prt t).length := by
                              have := (List.getElem?_eq_some_iff.1 hj').1
                              simpa using this
                            have h0 := HB.out j' hjl
                            rw [List.getElem?_map, List.getElem?_eq_getElem hjl] at hj'
                            cases hj'
                            rw [Addr.add_lit, Nat.zero_add]
                            exact h0
                          case c3 => unfold maxLen; omega
                          case c4 => omega
                          case c5 => omega
                          intro v' w1 hown hgr _
                          have hO1 : Own w1 W3.heap.size v' (flat prt (t + 1)) := own_app rfl hown
                          obtain ⟨a2, c2, rfl⟩ := hO1.slice
                          have HO1 : Hid (Own w1 W3.heap.size (.slice a2 (flat prt (t + 1)).length c2) (flat prt (t + 1))) := hO1
                          have hb2 : Hid (Below W3.heap.size W3 w1) := hb5.trans (grown_below hgr (fun k hk => HO.out.ge k hk) hb5s)
                          clear hO1 hown hgr
                          go_wp2
                          go_roundw
                          case rel => exact ⟨t + 1, by omega, by go_num, a2, c2, rfl, HO1.out, hb2.out⟩
                          case measure => simp [intOf]; omega
                    · obtain rfl : t = j := by omega
                      have HFL : ∀ {W : World} {B : Nat} {v : Value}, Own W B v (flat (fun j => partF (F ((fun t => g t % i) j))) t) → Own W B v (flat prt t) := fun h => by rw [HQ.out]; exact h
                      have hbW4 := hb3.trans (hb5.mono hb3s)
                      go_wp2_with fail
                      refine (fin_key (k := i) (N := t) (po := a) (pc := c) (p := (fun t => g t % i)) (T := wr.heap.size + 1) (D := wr.heap.size) HI.out ((((hbW4.alloc ?q1 _).alloc ?q2 _).alloc ?q3 _).alloc ?q4 _) Hsm.out ?hpos (by omega) (by omega) ?x0 ?x3 ?t2 ?d0 ?r1).mono ?_
                      case q1 => omega
                      case q2 => simp <;> omega
                      case q3 => simp <;> omega
                      case q4 => simp <;> omega
                      case hpos =>
                        rcases HC.out with h0 | ⟨P, rfl, hjc, hPc⟩
                        ·  exact .inl h0
                        ·  refine .inr ⟨P, rfl, hjc, fun t' ht' => ⟨?_, Nat.mod_lt _ (by omega)⟩⟩
                           have h1 := (hb5.cell (lt_of_cell (hPc t' ht'))).trans (hPc t' ht')
                           exact ((((((Below.refl _ _).alloc (Nat.le_refl _) _).alloc (by simp) _).alloc (by simp; omega) _).alloc (by simp; omega) _).cell (lt_of_cell h1)).trans h1
                      case x0 => simp [go_sem]
                      case x3 => simp [go_sem]
                      case t2 => simp [go_sem]
                      case d0 => simp [go_sem]
                      case r1 => simp [go_sem]
                      rintro e w6 ⟨v6, rfl, hO6, hb6⟩
                      obtain ⟨a6, c6, rfl⟩ := hO6.slice
                      have hOw : Own w6 W3.heap.size (.slice a4 (flat prt t).length c4) (flat prt t) := (((((HO.out.alloc _).alloc _).alloc _).alloc _).later hb6)
                      have hBz : Hid (Below w.heap.size w w6) := hb.trans (((((((hbW4.alloc (by omega) _).alloc (by simp <;> omega) _).alloc (by simp <;> omega) _).alloc (by simp <;> omega) _).trans (hb6.mono (by simp <;> omega))).mono hsz))
                      have HO6 : Hid (Own w6 _ _ (flat prt t)) := HFL hO6
                      have HOw : Hid (Own w6 W3.heap.size (.slice a4 (flat prt t).length c4) (flat prt t)) := hOw
                      clear hO6 hOw hb6
                      go_wp2_with fail
                      refine (equalC _ _ _ _ _ w6 HO6.out HOw.out).mono ?_
                      rintro e w7 ⟨rfl, hw7⟩
                      subst w7
                      go_wp2
                      go_ret
                      exact ⟨rfl, hBz.out⟩
end Go.Proofs.Ybulkatzw
