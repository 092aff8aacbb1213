import Derived.Test.YbulkatxeInv
import Derived.Deep.OwnRows
import Derived.Deep.DeepCutAuto
namespace Go.Proofs.Ybulkatxe
open Go.RowKit Go.Deep
set_option linter.unusedVariables false
set_option linter.unusedSimpArgs false

theorem Yba.info45 : (Yba.prog.info? 45).map (fun i => (i.zero, i.size, i.bytes)) = some (some (.pointer none), 1, 8) := by kernel_rfl
theorem Yba.info107 : (Yba.prog.info? 107).map (fun i => (i.zero, i.size, i.bytes)) = some (some .nilIface, 1, 16) := by kernel_rfl
set_option maxRecDepth 100000 in
set_option maxHeartbeats 4000000 in
theorem walk (b off n cap sel : Nat) (lo re co : Nat → Nat) (be bi : Nat → Bool) (w : World) (hn0 : 0 < n) (hn : n ≤ 1024) (hsel : sel < 65536) 
    (e0 : ∀ i, i < n → w.cell? ⟨b, off + i * 5, none⟩ = some (.int .u8 (lo i : Int)))
    (e1 : ∀ i, i < n → w.cell? ⟨b, off + i * 5 + 1, none⟩ = some (.int .u8 (re i : Int)))
    (e2 : ∀ i, i < n → w.cell? ⟨b, off + i * 5 + 2, none⟩ = some (.bool (be i)))
    (e3 : ∀ i, i < n → w.cell? ⟨b, off + i * 5 + 3, none⟩ = some (.bool (bi i)))
    (e4 : ∀ i, i < n → w.cell? ⟨b, off + i * 5 + 4, none⟩ = some (.int .u8 (co i : Int)))
    (l0 : ∀ i, lo i < 256) (l1 : ∀ i, re i < 256) (l4 : ∀ i, co i < 256) :
    Calls Yba.prog 3 #[.slice (some ⟨b, off, none⟩) n cap, .int .u16 (sel : Int)] w fun e w' => e = .returned (.bool true) ∧ Below w.heap.size w w' := by
  have t1 : ((n : Int) == 0) = false := beq_eq_false_iff_ne.2 (by omega)
  have t2 : decide ((1024 : Int) < (n : Int)) = false := decide_eq_false (by omega)
  have hmm := @run_makeMap Yba.prog
  have hmk := run_make_row' (P := Yba.prog) 52 45 (.pointer none) 8 Yba.underlying52 Yba.info45 rfl .i64 .i64 n (by omega) (by omega)
  go_enter Yba.func3, Yba.ntmps3
  go_wp2
  refine wp_loop_rounds 5 ?_
  rw [rounds_succ]
  go_wp2
  rw [rounds_succ]
  go_wp2
  rw [rounds_succ]
  go_wp2
  rw [rounds_succ]
  go_wp2
  rw [rounds_succ]
  go_wp2
  go_loopw [11] (fun i wr => ∃ k : Nat, k ≤ n ∧ i = .int .i64 k ∧ ∃ P D, (∀ j, j < k → Built be bi (fun j => re j % 4) (fun j => co j % 3) j (D j)) ∧
      Inv w w.heap.size (w.heap.size + 1) (w.heap.size + 1 + 1) (w.heap.size + 1 + 1 + 1) (w.heap.size + 1 + 1 + 1 + 1) (w.heap.size + 1 + 1 + 1 + 1 + 1) n k (2 * k) P D (fun j => lo j % 4) (ownTo be (fun j => lo j % 4) k) (ownTo bi (fun j => re j % 4) k) (ownTo be (fun j => lo j % 4) k) (ownTo bi (fun j => re j % 4) k) wr)
    (fun i _ => n - (intOf i).toNat)
  case atStart => exact ⟨0, Nat.zero_le _, rfl, fun _ => 0, fun _ => ⟨0, 0, false, false, false, .pointer none⟩, fun j hj => absurd hj (Nat.not_lt_zero _), Inv.start w n _ _ _⟩
  case round =>
    obtain ⟨k, hk, rfl, P, D, hB, hI⟩ := hrel
    by_cases hlt : k < n
    · as_aux_lemma =>
        have hbs := lt_of_cell (e0 k hlt)
        have u0 : wr.cell? ⟨b, off + k * 5, none⟩ = some (.int .u8 (lo k : Int)) := (hI.bel.cell hbs).trans (e0 k hlt)
        have u1 : wr.cell? ⟨b, off + k * 5 + 1, none⟩ = some (.int .u8 (re k : Int)) := (hI.bel.cell hbs).trans (e1 k hlt)
        have u2 : wr.cell? ⟨b, off + k * 5 + 2, none⟩ = some (.bool (be k)) := (hI.bel.cell hbs).trans (e2 k hlt)
        have u3 : wr.cell? ⟨b, off + k * 5 + 3, none⟩ = some (.bool (bi k)) := (hI.bel.cell hbs).trans (e3 k hlt)
        have u4 : wr.cell? ⟨b, off + k * 5 + 4, none⟩ = some (.int .u8 (co k : Int)) := (hI.bel.cell hbs).trans (e4 k hlt)
        have hb0 := l0 k
        have hb1 := l1 k
        have hb4 := l4 k
        have al := hI.all.cell hlt
        simp only [Nat.lt_irrefl, if_false] at al
        have af := hI.all.frozen k
        have hsz := hI.ord.2.2.2.2.2.2
        have hsz1 := Nat.lt_succ_of_lt hsz
        have hsz2 := Nat.lt_succ_of_lt hsz1
        have hsz3 := Nat.lt_succ_of_lt hsz2
        simp only [Nat.succ_eq_add_one] at hsz1 hsz2 hsz3
        obtain ⟨c, hc⟩ : ∃ c, lo k % 4 = c := ⟨_, rfl⟩
        obtain ⟨r, hr⟩ : ∃ r, re k % 4 = r := ⟨_, rfl⟩
        obtain ⟨m, hm⟩ : ∃ m, co k % 3 = m := ⟨_, rfl⟩
        have hcI : (lo k : Int) % 4 = (c : Int) := by omega
        have hrI : (re k : Int) % 4 = (r : Int) := by omega
        have hmI : (co k : Int) % 3 = (m : Int) := by omega
        have hc4 : c < 4 := by omega
        have hr4 : r < 4 := by omega
        have hm3 : m < 3 := by omega
        have Hc : Hid (lo k % 4 = c) := hc
        have Hr : Hid (re k % 4 = r) := hr
        have Hm : Hid (co k % 3 = m) := hm
        clear hc hr hm e0 e1 e2 e3 e4 l0 l1 l4
        have hmk2 := run_make_row' (P := Yba.prog) 57 107 .nilIface 16 Yba.underlying57 Yba.info107 rfl .i64 .i64 m (by omega) (by omega)
        by_cases hm0 : m = 0
        · have hmp : ¬ (0 : Int) < (m : Int) := by omega
          have hnew := hI.new0 c Hc.out hc4 (.cells #[.int .u8 (lo k : Int), .int .u8 (re k : Int), .bool (be k), .bool (bi k), .int .u8 (co k : Int)] 54) ⟨wr.heap.size + 1, 0, false, true, false, .slice none 0 0⟩ rfl (show 0 < 4 by decide)
          cases hbe : be k with
          | false =>
            rw [hbe] at u2 hnew
            cases hbi : bi k with
            | false =>
              rw [hbi] at u3 hnew
              go_wp2
              go_roundw
              case rel =>
                refine ⟨k + 1, by omega, by go_num, Inv.close hB ⟨wr.heap.size + 1, 0, false, true, false, .slice none 0 0⟩ ⟨by simp [hbi, Hr.out], hbi.symm, rfl, hbe.symm, ⟨none, by rw [Hm.out, hm0]⟩⟩ hnew (fun j _ => ?_) (by omega) (ownTo_no hbe).symm (ownTo_no hbi).symm (ownTo_no hbe).symm (ownTo_no hbi).symm⟩
                by_cases e : j = k <;> simp [e, DS.begin, DS.bindTo]
              case measure => simp [intOf]; omega
            | true =>
              rw [hbi] at u3 hnew
              go_wp2_with fail
              refine (bind_inv hnew (j := k) (r := r) (p := wr.heap.size + 1 + 1) (by omega) hr4 (by unfold maxLen; omega) (by simp)).mono ?_
              rintro e w2 ⟨rfl, hI3, hF3⟩
              have ow2 := hI3.rown.cell hr4
              have of2 := hI3.rown.frozen r
              have hI4 := hI3.setRef r (some k)
              clear hnew hI3 hF3
              go_wp2
              go_roundw
              case rel =>
                refine ⟨k + 1, by omega, by go_num, Inv.close hB ⟨wr.heap.size + 1, r, true, true, false, .slice none 0 0⟩ ⟨by simp [hbi, Hr.out], hbi.symm, rfl, hbe.symm, ⟨none, by rw [Hm.out, hm0]⟩⟩ hI4 (fun j _ => ?_) (by omega) (ownTo_no hbe).symm (by rw [ownTo_yes hbi]; show _ = upd _ (re k % 4) _; rw [Hr.out]) (ownTo_no hbe).symm (by rw [ownTo_yes hbi]; show _ = upd _ (re k % 4) _; rw [Hr.out])⟩
                by_cases e : j = k <;> simp [e, DS.begin, DS.bindTo]
              case measure => simp [intOf]; omega
          | true =>
            rw [hbe] at u2 hnew
            cases hbi : bi k with
            | false =>
              rw [hbi] at u3 hnew
              go_wp2_with fail
              refine (start_inv hnew (j := k) (p := wr.heap.size + 1 + 1) (by omega) (by unfold maxLen; omega) (by simp)).mono ?_
              rintro e w1 ⟨rfl, hI1, hF1⟩
              have qb := (hF1.block wr.heap.size (copy_lt ..) (by omega)).trans (copy_lies ..)
              have q1 : w1.cell? ⟨wr.heap.size, 1, none⟩ = some (.int .u8 (re k : Int)) := cell_of_heap qb rfl
              have q3 : w1.cell? ⟨wr.heap.size, 3, none⟩ = some (.bool false) := cell_of_heap qb rfl
              have ow1 := hI1.own.cell hc4
              have of1 := hI1.own.frozen c
              have hI2 := hI1.setOwn c (some k)
              clear qb hI1 hF1 hnew
              go_wp2
              go_roundw
              case rel =>
                refine ⟨k + 1, by omega, by go_num, Inv.close hB ⟨wr.heap.size + 1, 0, false, true, true, .slice none 0 0⟩ ⟨by simp [hbi, Hr.out], hbi.symm, rfl, hbe.symm, ⟨none, by rw [Hm.out, hm0]⟩⟩ hI2 (fun j _ => ?_) (by omega) (by rw [ownTo_yes hbe]; show _ = upd _ (lo k % 4) _; rw [Hc.out]) (ownTo_no hbi).symm (ownTo_yes hbe).symm (ownTo_no hbi).symm⟩
                by_cases e : j = k <;> simp [e, DS.begin, DS.bindTo]
              case measure => simp [intOf]; omega
            | true =>
              rw [hbi] at u3 hnew
              go_wp2_with fail
              refine (start_inv hnew (j := k) (p := wr.heap.size + 1 + 1) (by omega) (by unfold maxLen; omega) (by simp)).mono ?_
              rintro e w1 ⟨rfl, hI1, hF1⟩
              have qb := (hF1.block wr.heap.size (copy_lt ..) (by omega)).trans (copy_lies ..)
              have q1 : w1.cell? ⟨wr.heap.size, 1, none⟩ = some (.int .u8 (re k : Int)) := cell_of_heap qb rfl
              have q3 : w1.cell? ⟨wr.heap.size, 3, none⟩ = some (.bool true) := cell_of_heap qb rfl
              have ow1 := hI1.own.cell hc4
              have of1 := hI1.own.frozen c
              have hI2 := hI1.setOwn c (some k)
              clear qb hI1 hF1 hnew
              go_wp2_with fail
              refine (bind_inv hI2 (j := k) (r := r) (p := wr.heap.size + 1 + 1) (by omega) hr4 (by unfold maxLen; omega) (by simp)).mono ?_
              rintro e w2 ⟨rfl, hI3, hF3⟩
              have ow2 := hI3.rown.cell hr4
              have of2 := hI3.rown.frozen r
              have hI4 := hI3.setRef r (some k)
              clear hI2 hI3 hF3
              go_wp2
              go_roundw
              case rel =>
                refine ⟨k + 1, by omega, by go_num, Inv.close hB ⟨wr.heap.size + 1, r, true, true, true, .slice none 0 0⟩ ⟨by simp [hbi, Hr.out], hbi.symm, rfl, hbe.symm, ⟨none, by rw [Hm.out, hm0]⟩⟩ hI4 (fun j _ => ?_) (by omega) (by rw [ownTo_yes hbe]; show _ = upd _ (lo k % 4) _; rw [Hc.out]) (by rw [ownTo_yes hbi]; show _ = upd _ (re k % 4) _; rw [Hr.out]) (ownTo_yes hbe).symm (by rw [ownTo_yes hbi]; show _ = upd _ (re k % 4) _; rw [Hr.out])⟩
                by_cases e : j = k <;> simp [e, DS.begin, DS.bindTo]
              case measure => simp [intOf]; omega
        · have hmp : (0 : Int) < (m : Int) := by omega
          have hnew := (hI.new0 c Hc.out hc4 (.cells #[.int .u8 (lo k : Int), .int .u8 (re k : Int), .bool (be k), .bool (bi k), .int .u8 (co k : Int)] 54) ⟨wr.heap.size + 1, 0, false, true, false, .slice (some ⟨wr.heap.size + 1 + 1 + 1, 0, none⟩) m m⟩ rfl (show 0 < 4 by decide)).alloc (.cells (madeCells #[.nilIface] m) 107)
          cases hbe : be k with
          | false =>
            rw [hbe] at u2 hnew
            cases hbi : bi k with
            | false =>
              rw [hbi] at u3 hnew
              go_wp2
              go_roundw
              case rel =>
                refine ⟨k + 1, by omega, by go_num, Inv.close hB ⟨wr.heap.size + 1, 0, false, true, false, .slice (some ⟨wr.heap.size + 1 + 1 + 1, 0, none⟩) m m⟩ ⟨by simp [hbi, Hr.out], hbi.symm, rfl, hbe.symm, ⟨some ⟨wr.heap.size + 1 + 1 + 1, 0, none⟩, by rw [Hm.out]⟩⟩ hnew (fun j _ => ?_) (by omega) (ownTo_no hbe).symm (ownTo_no hbi).symm (ownTo_no hbe).symm (ownTo_no hbi).symm⟩
                by_cases e : j = k <;> simp [e, DS.begin, DS.bindTo]
              case measure => simp [intOf]; omega
            | true =>
              rw [hbi] at u3 hnew
              go_wp2_with fail
              refine (bind_inv hnew (j := k) (r := r) (p := wr.heap.size + 1 + 1) (by omega) hr4 (by unfold maxLen; omega) (by simp)).mono ?_
              rintro e w2 ⟨rfl, hI3, hF3⟩
              have ow2 := hI3.rown.cell hr4
              have of2 := hI3.rown.frozen r
              have hI4 := hI3.setRef r (some k)
              clear hnew hI3 hF3
              go_wp2
              go_roundw
              case rel =>
                refine ⟨k + 1, by omega, by go_num, Inv.close hB ⟨wr.heap.size + 1, r, true, true, false, .slice (some ⟨wr.heap.size + 1 + 1 + 1, 0, none⟩) m m⟩ ⟨by simp [hbi, Hr.out], hbi.symm, rfl, hbe.symm, ⟨some ⟨wr.heap.size + 1 + 1 + 1, 0, none⟩, by rw [Hm.out]⟩⟩ hI4 (fun j _ => ?_) (by omega) (ownTo_no hbe).symm (by rw [ownTo_yes hbi]; show _ = upd _ (re k % 4) _; rw [Hr.out]) (ownTo_no hbe).symm (by rw [ownTo_yes hbi]; show _ = upd _ (re k % 4) _; rw [Hr.out])⟩
                by_cases e : j = k <;> simp [e, DS.begin, DS.bindTo]
              case measure => simp [intOf]; omega
          | true =>
            rw [hbe] at u2 hnew
            cases hbi : bi k with
            | false =>
              rw [hbi] at u3 hnew
              go_wp2_with fail
              refine (start_inv hnew (j := k) (p := wr.heap.size + 1 + 1) (by omega) (by unfold maxLen; omega) (by simp)).mono ?_
              rintro e w1 ⟨rfl, hI1, hF1⟩
              have qb := (hF1.block wr.heap.size (copy_lt' ..) (by omega)).trans (copy_lies' ..)
              have q1 : w1.cell? ⟨wr.heap.size, 1, none⟩ = some (.int .u8 (re k : Int)) := cell_of_heap qb rfl
              have q3 : w1.cell? ⟨wr.heap.size, 3, none⟩ = some (.bool false) := cell_of_heap qb rfl
              have ow1 := hI1.own.cell hc4
              have of1 := hI1.own.frozen c
              have hI2 := hI1.setOwn c (some k)
              clear qb hI1 hF1 hnew
              go_wp2
              go_roundw
              case rel =>
                refine ⟨k + 1, by omega, by go_num, Inv.close hB ⟨wr.heap.size + 1, 0, false, true, true, .slice (some ⟨wr.heap.size + 1 + 1 + 1, 0, none⟩) m m⟩ ⟨by simp [hbi, Hr.out], hbi.symm, rfl, hbe.symm, ⟨some ⟨wr.heap.size + 1 + 1 + 1, 0, none⟩, by rw [Hm.out]⟩⟩ hI2 (fun j _ => ?_) (by omega) (by rw [ownTo_yes hbe]; show _ = upd _ (lo k % 4) _; rw [Hc.out]) (ownTo_no hbi).symm (ownTo_yes hbe).symm (ownTo_no hbi).symm⟩
                by_cases e : j = k <;> simp [e, DS.begin, DS.bindTo]
              case measure => simp [intOf]; omega
            | true =>
              rw [hbi] at u3 hnew
              go_wp2_with fail
              refine (start_inv hnew (j := k) (p := wr.heap.size + 1 + 1) (by omega) (by unfold maxLen; omega) (by simp)).mono ?_
              rintro e w1 ⟨rfl, hI1, hF1⟩
              have qb := (hF1.block wr.heap.size (copy_lt' ..) (by omega)).trans (copy_lies' ..)
              have q1 : w1.cell? ⟨wr.heap.size, 1, none⟩ = some (.int .u8 (re k : Int)) := cell_of_heap qb rfl
              have q3 : w1.cell? ⟨wr.heap.size, 3, none⟩ = some (.bool true) := cell_of_heap qb rfl
              have ow1 := hI1.own.cell hc4
              have of1 := hI1.own.frozen c
              have hI2 := hI1.setOwn c (some k)
              clear qb hI1 hF1 hnew
              go_wp2_with fail
              refine (bind_inv hI2 (j := k) (r := r) (p := wr.heap.size + 1 + 1) (by omega) hr4 (by unfold maxLen; omega) (by simp)).mono ?_
              rintro e w2 ⟨rfl, hI3, hF3⟩
              have ow2 := hI3.rown.cell hr4
              have of2 := hI3.rown.frozen r
              have hI4 := hI3.setRef r (some k)
              clear hI2 hI3 hF3
              go_wp2
              go_roundw
              case rel =>
                refine ⟨k + 1, by omega, by go_num, Inv.close hB ⟨wr.heap.size + 1, r, true, true, true, .slice (some ⟨wr.heap.size + 1 + 1 + 1, 0, none⟩) m m⟩ ⟨by simp [hbi, Hr.out], hbi.symm, rfl, hbe.symm, ⟨some ⟨wr.heap.size + 1 + 1 + 1, 0, none⟩, by rw [Hm.out]⟩⟩ hI4 (fun j _ => ?_) (by omega) (by rw [ownTo_yes hbe]; show _ = upd _ (lo k % 4) _; rw [Hc.out]) (by rw [ownTo_yes hbi]; show _ = upd _ (re k % 4) _; rw [Hr.out]) (ownTo_yes hbe).symm (by rw [ownTo_yes hbi]; show _ = upd _ (re k % 4) _; rw [Hr.out])⟩
                by_cases e : j = k <;> simp [e, DS.begin, DS.bindTo]
              case measure => simp [intOf]; omega
    · have hkn : k = n := by omega
      subst hkn
      clear hlt hk hmk hmm
      obtain ⟨t, ht⟩ : ∃ t, sel % k = t := ⟨_, rfl⟩
      have htI : (sel : Int) % (k : Int) = (t : Int) := by omega
      have htn : t < k := by rw [← ht]; exact Nat.mod_lt _ hn0
      have hti0 : (0 : Int) ≤ (t : Int) := by omega
      have htin : (t : Int) < (k : Int) := by omega
      have hbs := lt_of_cell (e0 t htn)
      have u0 : wr.cell? ⟨b, off + t * 5, none⟩ = some (.int .u8 (lo t : Int)) := (hI.bel.cell hbs).trans (e0 t htn)
      obtain ⟨c, hc⟩ : ∃ c, lo t % 4 = c := ⟨_, rfl⟩
      have hcI : (lo t : Int) % 4 = (c : Int) := by omega
      have hc4 : c < 4 := by omega
      have Hc : Hid (lo t % 4 = c) := hc
      have al := hI.all.cell htn
      simp only [htn, if_true] at al
      have hBt := hB t htn
      have d6 : wr.cell? ⟨P t, 6, none⟩ = some (.bool (bi t)) := hBt.bd ▸ cell_of_heap (hI.dl t htn) rfl
      obtain ⟨r, hr⟩ : ∃ r, (D t).rf = r := ⟨_, rfl⟩
      have d5 : wr.cell? ⟨P t, 5, none⟩ = some (.int .i64 (r : Int)) := hr ▸ cell_of_heap (hI.dl t htn) rfl
      have hr4 : r < 4 := hr ▸ hI.rf4 t htn
      have Hr : Hid ((D t).rf = r) := hr
      have hb0 := l0 t
      clear hc ht hr
      go_wp2_with fail
      refine (release_inv hI (j := t) (p := P t) htn rfl).mono ?_
      rintro e w1 ⟨rfl, hI1⟩
      have ow1 := hI1.own.cell hc4
      have of1 := hI1.own.frozen c
      have ro1 := hI1.rown.cell hr4
      have rf1 := hI1.rown.frozen r
      have hI2 := hI1.setOwn c none
      rw [hBt.bd, Hr.out] at hI2
      have hnsl := fun w => run_neq_slice_nil_any (P := Yba.prog) w 57 107 none 0 0 0 0 Yba.underlying57
      clear hI hI1 al d5 d6 u0
      cases hbi : bi t with
      | false =>
        as_aux_lemma =>
          rw [hbi] at hI2
          have J : Inv w w.heap.size (w.heap.size + 1) (w.heap.size + 1 + 1) (w.heap.size + 1 + 1 + 1) (w.heap.size + 1 + 1 + 1 + 1) (w.heap.size + 1 + 1 + 1 + 1 + 1) k k (2 * k) P (fun i => if i = t then (D t).free else D i) (fun j => lo j % 4)
              (upd (ownTo be (fun j => lo j % 4) k) c none) (ownTo bi (fun j => re j % 4) k) (upd (ownTo be (fun j => lo j % 4) k) c none) (ownTo bi (fun j => re j % 4) k) (w1.setCell ⟨w.heap.size + 1 + 1 + 1, c, none⟩ (.int .i64 (-1))) := by
            have e1 : relQ (ownTo bi (fun j => re j % 4) k) false r t = ownTo bi (fun j => re j % 4) k := by simp [relQ]
            rw [e1] at hI2
            have e2 : lo t % 4 = c := Hc.out
            simp only [e2] at hI2
            exact hI2
          clear ro1
          generalize hq : upd (ownTo be (fun j => lo j % 4) k) c none = q at J
          generalize hrr : (ownTo bi (fun j => re j % 4) k) = rr at J
          clear hq hrr hI2
          have dt := J.dl t htn
          simp only [if_true] at dt
          have c0 : (w1.setCell ⟨w.heap.size + 1 + 1 + 1, c, none⟩ (.int .i64 (-1))).cell? ⟨P t, 0, none⟩ = some (.slice (some ⟨(D t).l, 0, none⟩) 1 1) := cell_of_heap dt rfl
          have c5 : (w1.setCell ⟨w.heap.size + 1 + 1 + 1, c, none⟩ (.int .i64 (-1))).cell? ⟨P t, 5, none⟩ = some (.int .i64 (r : Int)) := by have q5 := cell_of_heap (o := 5) (v := .int .i64 ((D t).rf : Int)) dt rfl; rw [Hr.out] at q5; exact q5
          have c6 : (w1.setCell ⟨w.heap.size + 1 + 1 + 1, c, none⟩ (.int .i64 (-1))).cell? ⟨P t, 6, none⟩ = some (.bool false) := cell_of_heap dt rfl
          have c7 : (w1.setCell ⟨w.heap.size + 1 + 1 + 1, c, none⟩ (.int .i64 (-1))).cell? ⟨P t, 7, none⟩ = some (.bool false) := cell_of_heap dt rfl
          have c8 : (w1.setCell ⟨w.heap.size + 1 + 1 + 1, c, none⟩ (.int .i64 (-1))).cell? ⟨P t, 8, none⟩ = some (.bool (be t)) := hBt.bg ▸ cell_of_heap dt rfl
          have c14 : (w1.setCell ⟨w.heap.size + 1 + 1 + 1, c, none⟩ (.int .i64 (-1))).cell? ⟨P t, 14, none⟩ = some (.slice none 0 0) := cell_of_heap dt rfl
          have cl : (w1.setCell ⟨w.heap.size + 1 + 1 + 1, c, none⟩ (.int .i64 (-1))).cell? ⟨(D t).l, 0, none⟩ = some (.int .u8 (c : Int)) := by
            have := J.ll t htn
            simp only [if_true] at this
            rw [show lo t % 4 = c from Hc.out] at this
            exact cell_of_heap this rfl
          have ub : (w1.setCell ⟨w.heap.size + 1 + 1 + 1, c, none⟩ (.int .i64 (-1))).cell? ⟨b, off + t * 5 + 2, none⟩ = some (.bool (be t)) := (J.bel.cell hbs).trans (e2 t htn)
          have k1 : ((r : Int) != (r : Int)) = false := by simp
          have k2 : ((c : Int) != (c : Int)) = false := by simp
          have k3 : (be t != be t) = false := by simp
          have htin' : (t : Int) < (k : Int) := htin
          go_wp2
          generalize w1.setCell ⟨w.heap.size + 1 + 1 + 1, c, none⟩ (.int .i64 (-1)) = W at *
          clear ow1 of1 rf1
          go_quiet (fail)
          clear c0 c5 c6 c7 c8 c14 cl ub k1 k2 k3 dt hnsl
          go_wp2
          go_loopw [22, 23] (fun ct kk w' => ∃ j : Nat, j ≤ 4 ∧ kk = .int .i64 j ∧ ct = .int .i64 (cntTo q j : Int) ∧ Inv w w.heap.size (w.heap.size + 1) (w.heap.size + 1 + 1) (w.heap.size + 1 + 1 + 1) (w.heap.size + 1 + 1 + 1 + 1) (w.heap.size + 1 + 1 + 1 + 1 + 1) k k (2 * k) P (fun i => if i = t then (D t).free else D i) (fun j => lo j % 4) q rr q rr w') (fun _ kk _ => 4 - (intOf kk).toNat)
          case atStart => exact ⟨0, by omega, rfl, rfl, J.drewN _⟩
          case round =>
            clear J
            obtain ⟨j, hj, rfl, rfl, J⟩ := hrel
            have hj256 : j < 256 := by omega
            have hcl := cntTo_le q j
            by_cases hlt : j < 4
            · have hlook : ∀ n, (Instr.lookup 25 (.map (some w.heap.size)) (.int .u64 (kOf j)) true).run Yba.prog (wr.drewN n) = .ok (.tuple #[ptrV ((q j).map P), .bool ((q j).map P).isSome]) (wr.drewN n) := fun n =>
                PM.look_ok (w := wr.drewN n) (J.md.of_block rfl) kindD Yba.underlying25 hlt
              have s17 := J.s17
              have owc := J.own.cell hlt
              have hj0 : (0 : Int) ≤ (j : Int) := by omega
              have hj4 : (j : Int) < 4 := by omega
              cases hqj : q j with
              | none =>
                have hst := cntTo_none hqj
                have Hst : Hid (cntTo q (j + 1) = cntTo q j) := hst
                clear hst
                simp only [hqj, Option.map_none, Option.isSome_none, ptrV, oI] at hlook owc
                go_wp2
                go_quiet ((go_at_call 7; exact Calls.quiet_of_same (ckey_any j hj256 _)))
                go_wp2
                go_roundw
                case rel => exact ⟨j + 1, by omega, by go_num, by rw [Hst.out], J.drewN _⟩
                case measure => simp [intOf]; omega
              | some i =>
                have hst := cntTo_some hqj
                have Hst : Hid (cntTo q (j + 1) = cntTo q j + 1) := hst
                clear hst
                have hik := J.qdk _ _ hqj
                have ali := J.all.cell hik
                simp only [hik, if_true] at ali
                have hne : ∀ n, (binOp .neq 45 (.pointer (some ⟨P i, 0, none⟩)) (.pointer (some ⟨P i, 0, none⟩))).run Yba.prog (wr.drewN n) = .ok (.bool false) (wr.drewN n) := fun n => ptr_neq_same _ _
                simp only [hqj, Option.map_some, Option.isSome_some, ptrV, oI] at hlook owc
                go_wp2
                go_quiet ((go_at_call 7; exact Calls.quiet_of_same (ckey_any j hj256 _)))
                go_wp2
                go_roundw
                case rel => exact ⟨j + 1, by omega, by go_num, by rw [Hst.out]; go_num, J.drewN _⟩
                case measure => simp [intOf]; omega
            · have hj4 : j = 4 := by omega
              subst hj4
              have s17 := J.s17
              have hlen : ∀ ty, (Builtin.len_ #[25] ty #[.map (some w.heap.size)]).run Yba.prog wr = .ok (.int .i64 (cntTo q 4 : Int)) wr := fun ty => by
                rw [PM.len J.md Yba.underlying25 ty, cnt_map]
              have hnn : ((cntTo q 4 : Int) != (cntTo q 4 : Int)) = false := by simp
              go_wp2
              clear hlen hnn s17
              go_loopw [22, 26] (fun ct kk w' => ∃ j : Nat, j ≤ 4 ∧ kk = .int .i64 j ∧ ct = .int .i64 (cntTo rr j : Int) ∧ Inv w w.heap.size (w.heap.size + 1) (w.heap.size + 1 + 1) (w.heap.size + 1 + 1 + 1) (w.heap.size + 1 + 1 + 1 + 1) (w.heap.size + 1 + 1 + 1 + 1 + 1) k k (2 * k) P (fun i => if i = t then (D t).free else D i) (fun j => lo j % 4) q rr q rr w') (fun _ kk _ => 4 - (intOf kk).toNat)
              case atStart => exact ⟨0, by omega, rfl, rfl, J⟩
              case round =>
                clear J
                obtain ⟨j, hj, rfl, rfl, J⟩ := hrel
                have hcl := cntTo_le rr j
                by_cases hlt : j < 4
                · have hlook : (Instr.lookup 26 (.map (some (w.heap.size + 1))) (.int .i64 (j : Int)) true).run Yba.prog wr = .ok (.tuple #[ptrV ((rr j).map P), .bool ((rr j).map P).isSome]) wr :=
                    PM.look_ok J.mr kindR Yba.underlying26 hlt
                  have s18 := J.s18
                  have owc := J.rown.cell hlt
                  have hj0 : (0 : Int) ≤ (j : Int) := by omega
                  have hj4 : (j : Int) < 4 := by omega
                  cases hqj : rr j with
                  | none =>
                    have Hst : Hid (cntTo rr (j + 1) = cntTo rr j) := cntTo_none hqj
                    simp only [hqj, Option.map_none, Option.isSome_none, ptrV, oI] at hlook owc
                    go_wp2
                    go_roundw
                    case rel => exact ⟨j + 1, by omega, by go_num, by rw [Hst.out], J⟩
                    case measure => simp [intOf]; omega
                  | some i =>
                    have Hst : Hid (cntTo rr (j + 1) = cntTo rr j + 1) := cntTo_some hqj
                    have hik := J.qrk _ _ hqj
                    have ali := J.all.cell hik
                    simp only [hik, if_true] at ali
                    have hne : (binOp .neq 45 (.pointer (some ⟨P i, 0, none⟩)) (.pointer (some ⟨P i, 0, none⟩))).run Yba.prog wr = .ok (.bool false) wr := ptr_neq_same _ _
                    simp only [hqj, Option.map_some, Option.isSome_some, ptrV, oI] at hlook owc
                    go_wp2
                    go_roundw
                    case rel => exact ⟨j + 1, by omega, by go_num, by rw [Hst.out]; go_num, J⟩
                    case measure => simp [intOf]; omega
                · have hj4 : j = 4 := by omega
                  subst hj4
                  have s18 := J.s18
                  have hlen : ∀ ty, (Builtin.len_ #[26] ty #[.map (some (w.heap.size + 1))]).run Yba.prog wr = .ok (.int .i64 (cntTo rr 4 : Int)) wr := fun ty => by
                    rw [PM.len J.mr Yba.underlying26 ty, cnt_map]
                  have hnn : ((cntTo rr 4 : Int) != (cntTo rr 4 : Int)) = false := by simp
                  go_wp2
                  clear hlen hnn s18
                  go_loopw [29] (fun ii w' => ∃ i : Nat, i ≤ k ∧ ii = .int .i64 i ∧ Inv w w.heap.size (w.heap.size + 1) (w.heap.size + 1 + 1) (w.heap.size + 1 + 1 + 1) (w.heap.size + 1 + 1 + 1 + 1) (w.heap.size + 1 + 1 + 1 + 1 + 1) k k (2 * k) P (fun i => if i = t then (D t).free else D i) (fun j => lo j % 4) q rr q rr w') (fun ii _ => k - (intOf ii).toNat)
                  case atStart => exact ⟨0, by omega, rfl, J⟩
                  case round =>
                    clear J
                    obtain ⟨i, hik, rfl, J⟩ := hrel
                    by_cases hlt : i < k
                    · by_cases hit : i = t
                      · have hb : ((i : Int) == (t : Int)) = true := beq_iff_eq.2 (by omega)
                        have Hit : Hid (i = t) := hit
                        clear hit
                        go_wp2
                        go_roundw
                        case rel => exact ⟨i + 1, by omega, by go_num, J⟩
                        case measure => simp [intOf]; omega
                      · have hb : ((i : Int) == (t : Int)) = false := beq_eq_false_iff_ne.2 (by omega)
                        have ali := J.all.cell hlt
                        simp only [hlt, if_true] at ali
                        have hBi := hB i hlt
                        have di := J.dl i hlt
                        simp only [hit, if_false] at di
                        obtain ⟨m, hm⟩ : ∃ m, co i % 3 = m := ⟨_, rfl⟩
                        have hmI : (co i : Int) % 3 = (m : Int) := by omega
                        obtain ⟨a, ha⟩ := hBi.cs
                        rw [hm] at ha
                        have c6 : wr.cell? ⟨P i, 6, none⟩ = some (.bool (bi i)) := hBi.bd ▸ cell_of_heap di rfl
                        have c7 : wr.cell? ⟨P i, 7, none⟩ = some (.bool true) := hBi.op ▸ cell_of_heap di rfl
                        have c14 : wr.cell? ⟨P i, 14, none⟩ = some (.slice a m m) := ha ▸ cell_of_heap di rfl
                        have hbsi := lt_of_cell (e0 i hlt)
                        have u3 : wr.cell? ⟨b, off + i * 5 + 3, none⟩ = some (.bool (bi i)) := (J.bel.cell hbsi).trans (e3 i hlt)
                        have u4 : wr.cell? ⟨b, off + i * 5 + 4, none⟩ = some (.int .u8 (co i : Int)) := (J.bel.cell hbsi).trans (e4 i hlt)
                        have k1 : (bi i != bi i) = false := by simp
                        have k2 : ((m : Int) != (m : Int)) = false := by simp
                        have hi0 : (0 : Int) ≤ (i : Int) := by omega
                        have hin : (i : Int) < (k : Int) := by omega
                        have hb4 := l4 i
                        clear hm ha di hBi hit
                        go_wp2
                        go_quiet (fail)
                        go_wp2
                        go_roundw
                        case rel => exact ⟨i + 1, by omega, by go_num, J.drewN _⟩
                        case measure => simp [intOf]; omega
                    · go_wp2
                      go_ret
                      exact ⟨rfl, J.bel⟩
      | true =>
        rw [hbi] at hI2
        by_cases hit : ownTo bi (fun j => re j % 4) k r = some t
        · as_aux_lemma =>
            have J : Inv w w.heap.size (w.heap.size + 1) (w.heap.size + 1 + 1) (w.heap.size + 1 + 1 + 1) (w.heap.size + 1 + 1 + 1 + 1) (w.heap.size + 1 + 1 + 1 + 1 + 1) k k (2 * k) P (fun i => if i = t then (D t).free else D i) (fun j => lo j % 4)
                (upd (ownTo be (fun j => lo j % 4) k) c none) (upd (ownTo bi (fun j => re j % 4) k) r none) (upd (ownTo be (fun j => lo j % 4) k) c none) (upd (ownTo bi (fun j => re j % 4) k) r none) ((w1.setCell ⟨w.heap.size + 1 + 1 + 1, c, none⟩ (.int .i64 (-1))).setCell ⟨w.heap.size + 1 + 1 + 1 + 1, r, none⟩ (.int .i64 (-1))) := by
              have e1 : relQ (ownTo bi (fun j => re j % 4) k) true r t = upd (ownTo bi (fun j => re j % 4) k) r none := by simp [relQ, hit]
              rw [e1] at hI2
              have e2 : lo t % 4 = c := Hc.out
              simp only [e2] at hI2
              exact hI2.setRef r none
            have hr0 : (0 : Int) ≤ (r : Int) := by omega
            have hr40 : (r : Int) < 4 := by omega
            rw [hit] at ro1
            simp only [oI] at ro1
            have htt : ((t : Int) == (t : Int)) = true := by simp
            clear hit
            generalize hq : upd (ownTo be (fun j => lo j % 4) k) c none = q at J
            generalize hrr : (upd (ownTo bi (fun j => re j % 4) k) r none) = rr at J
            clear hq hrr hI2
            have dt := J.dl t htn
            simp only [if_true] at dt
            have c0 : ((w1.setCell ⟨w.heap.size + 1 + 1 + 1, c, none⟩ (.int .i64 (-1))).setCell ⟨w.heap.size + 1 + 1 + 1 + 1, r, none⟩ (.int .i64 (-1))).cell? ⟨P t, 0, none⟩ = some (.slice (some ⟨(D t).l, 0, none⟩) 1 1) := cell_of_heap dt rfl
            have c5 : ((w1.setCell ⟨w.heap.size + 1 + 1 + 1, c, none⟩ (.int .i64 (-1))).setCell ⟨w.heap.size + 1 + 1 + 1 + 1, r, none⟩ (.int .i64 (-1))).cell? ⟨P t, 5, none⟩ = some (.int .i64 (r : Int)) := by have q5 := cell_of_heap (o := 5) (v := .int .i64 ((D t).rf : Int)) dt rfl; rw [Hr.out] at q5; exact q5
            have c6 : ((w1.setCell ⟨w.heap.size + 1 + 1 + 1, c, none⟩ (.int .i64 (-1))).setCell ⟨w.heap.size + 1 + 1 + 1 + 1, r, none⟩ (.int .i64 (-1))).cell? ⟨P t, 6, none⟩ = some (.bool false) := cell_of_heap dt rfl
            have c7 : ((w1.setCell ⟨w.heap.size + 1 + 1 + 1, c, none⟩ (.int .i64 (-1))).setCell ⟨w.heap.size + 1 + 1 + 1 + 1, r, none⟩ (.int .i64 (-1))).cell? ⟨P t, 7, none⟩ = some (.bool false) := cell_of_heap dt rfl
            have c8 : ((w1.setCell ⟨w.heap.size + 1 + 1 + 1, c, none⟩ (.int .i64 (-1))).setCell ⟨w.heap.size + 1 + 1 + 1 + 1, r, none⟩ (.int .i64 (-1))).cell? ⟨P t, 8, none⟩ = some (.bool (be t)) := hBt.bg ▸ cell_of_heap dt rfl
            have c14 : ((w1.setCell ⟨w.heap.size + 1 + 1 + 1, c, none⟩ (.int .i64 (-1))).setCell ⟨w.heap.size + 1 + 1 + 1 + 1, r, none⟩ (.int .i64 (-1))).cell? ⟨P t, 14, none⟩ = some (.slice none 0 0) := cell_of_heap dt rfl
            have cl : ((w1.setCell ⟨w.heap.size + 1 + 1 + 1, c, none⟩ (.int .i64 (-1))).setCell ⟨w.heap.size + 1 + 1 + 1 + 1, r, none⟩ (.int .i64 (-1))).cell? ⟨(D t).l, 0, none⟩ = some (.int .u8 (c : Int)) := by
              have := J.ll t htn
              simp only [if_true] at this
              rw [show lo t % 4 = c from Hc.out] at this
              exact cell_of_heap this rfl
            have ub : ((w1.setCell ⟨w.heap.size + 1 + 1 + 1, c, none⟩ (.int .i64 (-1))).setCell ⟨w.heap.size + 1 + 1 + 1 + 1, r, none⟩ (.int .i64 (-1))).cell? ⟨b, off + t * 5 + 2, none⟩ = some (.bool (be t)) := (J.bel.cell hbs).trans (e2 t htn)
            have k1 : ((r : Int) != (r : Int)) = false := by simp
            have k2 : ((c : Int) != (c : Int)) = false := by simp
            have k3 : (be t != be t) = false := by simp
            have htin' : (t : Int) < (k : Int) := htin
            go_wp2
            generalize (w1.setCell ⟨w.heap.size + 1 + 1 + 1, c, none⟩ (.int .i64 (-1))).setCell ⟨w.heap.size + 1 + 1 + 1 + 1, r, none⟩ (.int .i64 (-1)) = W at *
            clear ow1 of1 ro1 rf1
            go_quiet (fail)
            clear c0 c5 c6 c7 c8 c14 cl ub k1 k2 k3 dt hnsl
            go_wp2
            go_loopw [22, 23] (fun ct kk w' => ∃ j : Nat, j ≤ 4 ∧ kk = .int .i64 j ∧ ct = .int .i64 (cntTo q j : Int) ∧ Inv w w.heap.size (w.heap.size + 1) (w.heap.size + 1 + 1) (w.heap.size + 1 + 1 + 1) (w.heap.size + 1 + 1 + 1 + 1) (w.heap.size + 1 + 1 + 1 + 1 + 1) k k (2 * k) P (fun i => if i = t then (D t).free else D i) (fun j => lo j % 4) q rr q rr w') (fun _ kk _ => 4 - (intOf kk).toNat)
            case atStart => exact ⟨0, by omega, rfl, rfl, J.drewN _⟩
            case round =>
              clear J
              obtain ⟨j, hj, rfl, rfl, J⟩ := hrel
              have hj256 : j < 256 := by omega
              have hcl := cntTo_le q j
              by_cases hlt : j < 4
              · have hlook : ∀ n, (Instr.lookup 25 (.map (some w.heap.size)) (.int .u64 (kOf j)) true).run Yba.prog (wr.drewN n) = .ok (.tuple #[ptrV ((q j).map P), .bool ((q j).map P).isSome]) (wr.drewN n) := fun n =>
                  PM.look_ok (w := wr.drewN n) (J.md.of_block rfl) kindD Yba.underlying25 hlt
                have s17 := J.s17
                have owc := J.own.cell hlt
                have hj0 : (0 : Int) ≤ (j : Int) := by omega
                have hj4 : (j : Int) < 4 := by omega
                cases hqj : q j with
                | none =>
                  have hst := cntTo_none hqj
                  have Hst : Hid (cntTo q (j + 1) = cntTo q j) := hst
                  clear hst
                  simp only [hqj, Option.map_none, Option.isSome_none, ptrV, oI] at hlook owc
                  go_wp2
                  go_quiet ((go_at_call 7; exact Calls.quiet_of_same (ckey_any j hj256 _)))
                  go_wp2
                  go_roundw
                  case rel => exact ⟨j + 1, by omega, by go_num, by rw [Hst.out], J.drewN _⟩
                  case measure => simp [intOf]; omega
                | some i =>
                  have hst := cntTo_some hqj
                  have Hst : Hid (cntTo q (j + 1) = cntTo q j + 1) := hst
                  clear hst
                  have hik := J.qdk _ _ hqj
                  have ali := J.all.cell hik
                  simp only [hik, if_true] at ali
                  have hne : ∀ n, (binOp .neq 45 (.pointer (some ⟨P i, 0, none⟩)) (.pointer (some ⟨P i, 0, none⟩))).run Yba.prog (wr.drewN n) = .ok (.bool false) (wr.drewN n) := fun n => ptr_neq_same _ _
                  simp only [hqj, Option.map_some, Option.isSome_some, ptrV, oI] at hlook owc
                  go_wp2
                  go_quiet ((go_at_call 7; exact Calls.quiet_of_same (ckey_any j hj256 _)))
                  go_wp2
                  go_roundw
                  case rel => exact ⟨j + 1, by omega, by go_num, by rw [Hst.out]; go_num, J.drewN _⟩
                  case measure => simp [intOf]; omega
              · have hj4 : j = 4 := by omega
                subst hj4
                have s17 := J.s17
                have hlen : ∀ ty, (Builtin.len_ #[25] ty #[.map (some w.heap.size)]).run Yba.prog wr = .ok (.int .i64 (cntTo q 4 : Int)) wr := fun ty => by
                  rw [PM.len J.md Yba.underlying25 ty, cnt_map]
                have hnn : ((cntTo q 4 : Int) != (cntTo q 4 : Int)) = false := by simp
                go_wp2
                clear hlen hnn s17
                go_loopw [22, 26] (fun ct kk w' => ∃ j : Nat, j ≤ 4 ∧ kk = .int .i64 j ∧ ct = .int .i64 (cntTo rr j : Int) ∧ Inv w w.heap.size (w.heap.size + 1) (w.heap.size + 1 + 1) (w.heap.size + 1 + 1 + 1) (w.heap.size + 1 + 1 + 1 + 1) (w.heap.size + 1 + 1 + 1 + 1 + 1) k k (2 * k) P (fun i => if i = t then (D t).free else D i) (fun j => lo j % 4) q rr q rr w') (fun _ kk _ => 4 - (intOf kk).toNat)
                case atStart => exact ⟨0, by omega, rfl, rfl, J⟩
                case round =>
                  clear J
                  obtain ⟨j, hj, rfl, rfl, J⟩ := hrel
                  have hcl := cntTo_le rr j
                  by_cases hlt : j < 4
                  · have hlook : (Instr.lookup 26 (.map (some (w.heap.size + 1))) (.int .i64 (j : Int)) true).run Yba.prog wr = .ok (.tuple #[ptrV ((rr j).map P), .bool ((rr j).map P).isSome]) wr :=
                      PM.look_ok J.mr kindR Yba.underlying26 hlt
                    have s18 := J.s18
                    have owc := J.rown.cell hlt
                    have hj0 : (0 : Int) ≤ (j : Int) := by omega
                    have hj4 : (j : Int) < 4 := by omega
                    cases hqj : rr j with
                    | none =>
                      have Hst : Hid (cntTo rr (j + 1) = cntTo rr j) := cntTo_none hqj
                      simp only [hqj, Option.map_none, Option.isSome_none, ptrV, oI] at hlook owc
                      go_wp2
                      go_roundw
                      case rel => exact ⟨j + 1, by omega, by go_num, by rw [Hst.out], J⟩
                      case measure => simp [intOf]; omega
                    | some i =>
                      have Hst : Hid (cntTo rr (j + 1) = cntTo rr j + 1) := cntTo_some hqj
                      have hik := J.qrk _ _ hqj
                      have ali := J.all.cell hik
                      simp only [hik, if_true] at ali
                      have hne : (binOp .neq 45 (.pointer (some ⟨P i, 0, none⟩)) (.pointer (some ⟨P i, 0, none⟩))).run Yba.prog wr = .ok (.bool false) wr := ptr_neq_same _ _
                      simp only [hqj, Option.map_some, Option.isSome_some, ptrV, oI] at hlook owc
                      go_wp2
                      go_roundw
                      case rel => exact ⟨j + 1, by omega, by go_num, by rw [Hst.out]; go_num, J⟩
                      case measure => simp [intOf]; omega
                  · have hj4 : j = 4 := by omega
                    subst hj4
                    have s18 := J.s18
                    have hlen : ∀ ty, (Builtin.len_ #[26] ty #[.map (some (w.heap.size + 1))]).run Yba.prog wr = .ok (.int .i64 (cntTo rr 4 : Int)) wr := fun ty => by
                      rw [PM.len J.mr Yba.underlying26 ty, cnt_map]
                    have hnn : ((cntTo rr 4 : Int) != (cntTo rr 4 : Int)) = false := by simp
                    go_wp2
                    clear hlen hnn s18
                    go_loopw [29] (fun ii w' => ∃ i : Nat, i ≤ k ∧ ii = .int .i64 i ∧ Inv w w.heap.size (w.heap.size + 1) (w.heap.size + 1 + 1) (w.heap.size + 1 + 1 + 1) (w.heap.size + 1 + 1 + 1 + 1) (w.heap.size + 1 + 1 + 1 + 1 + 1) k k (2 * k) P (fun i => if i = t then (D t).free else D i) (fun j => lo j % 4) q rr q rr w') (fun ii _ => k - (intOf ii).toNat)
                    case atStart => exact ⟨0, by omega, rfl, J⟩
                    case round =>
                      clear J
                      obtain ⟨i, hik, rfl, J⟩ := hrel
                      by_cases hlt : i < k
                      · by_cases hit : i = t
                        · have hb : ((i : Int) == (t : Int)) = true := beq_iff_eq.2 (by omega)
                          have Hit : Hid (i = t) := hit
                          clear hit
                          go_wp2
                          go_roundw
                          case rel => exact ⟨i + 1, by omega, by go_num, J⟩
                          case measure => simp [intOf]; omega
                        · have hb : ((i : Int) == (t : Int)) = false := beq_eq_false_iff_ne.2 (by omega)
                          have ali := J.all.cell hlt
                          simp only [hlt, if_true] at ali
                          have hBi := hB i hlt
                          have di := J.dl i hlt
                          simp only [hit, if_false] at di
                          obtain ⟨m, hm⟩ : ∃ m, co i % 3 = m := ⟨_, rfl⟩
                          have hmI : (co i : Int) % 3 = (m : Int) := by omega
                          obtain ⟨a, ha⟩ := hBi.cs
                          rw [hm] at ha
                          have c6 : wr.cell? ⟨P i, 6, none⟩ = some (.bool (bi i)) := hBi.bd ▸ cell_of_heap di rfl
                          have c7 : wr.cell? ⟨P i, 7, none⟩ = some (.bool true) := hBi.op ▸ cell_of_heap di rfl
                          have c14 : wr.cell? ⟨P i, 14, none⟩ = some (.slice a m m) := ha ▸ cell_of_heap di rfl
                          have hbsi := lt_of_cell (e0 i hlt)
                          have u3 : wr.cell? ⟨b, off + i * 5 + 3, none⟩ = some (.bool (bi i)) := (J.bel.cell hbsi).trans (e3 i hlt)
                          have u4 : wr.cell? ⟨b, off + i * 5 + 4, none⟩ = some (.int .u8 (co i : Int)) := (J.bel.cell hbsi).trans (e4 i hlt)
                          have k1 : (bi i != bi i) = false := by simp
                          have k2 : ((m : Int) != (m : Int)) = false := by simp
                          have hi0 : (0 : Int) ≤ (i : Int) := by omega
                          have hin : (i : Int) < (k : Int) := by omega
                          have hb4 := l4 i
                          clear hm ha di hBi hit
                          go_wp2
                          go_quiet (fail)
                          go_wp2
                          go_roundw
                          case rel => exact ⟨i + 1, by omega, by go_num, J.drewN _⟩
                          case measure => simp [intOf]; omega
                      · go_wp2
                        go_ret
                        exact ⟨rfl, J.bel⟩
        · as_aux_lemma =>
            have J : Inv w w.heap.size (w.heap.size + 1) (w.heap.size + 1 + 1) (w.heap.size + 1 + 1 + 1) (w.heap.size + 1 + 1 + 1 + 1) (w.heap.size + 1 + 1 + 1 + 1 + 1) k k (2 * k) P (fun i => if i = t then (D t).free else D i) (fun j => lo j % 4)
                (upd (ownTo be (fun j => lo j % 4) k) c none) (ownTo bi (fun j => re j % 4) k) (upd (ownTo be (fun j => lo j % 4) k) c none) (ownTo bi (fun j => re j % 4) k) (w1.setCell ⟨w.heap.size + 1 + 1 + 1, c, none⟩ (.int .i64 (-1))) := by
              have e1 : relQ (ownTo bi (fun j => re j % 4) k) true r t = ownTo bi (fun j => re j % 4) k := by simp [relQ, hit]
              rw [e1] at hI2
              have e2 : lo t % 4 = c := Hc.out
              simp only [e2] at hI2
              exact hI2
            have hr0 : (0 : Int) ≤ (r : Int) := by omega
            have hr40 : (r : Int) < 4 := by omega
            have hxt : (oI (ownTo bi (fun j => re j % 4) k r) == (t : Int)) = false := by
              cases h : ownTo bi (fun j => re j % 4) k r with
              | none => simp [oI]
              | some x => simp [oI]; intro e; exact hit (by rw [h]; congr 1; omega)
            generalize oI (ownTo bi (fun j => re j % 4) k r) = x at ro1 hxt
            clear hit
            generalize hq : upd (ownTo be (fun j => lo j % 4) k) c none = q at J
            generalize hrr : (ownTo bi (fun j => re j % 4) k) = rr at J
            clear hq hrr hI2
            have dt := J.dl t htn
            simp only [if_true] at dt
            have c0 : (w1.setCell ⟨w.heap.size + 1 + 1 + 1, c, none⟩ (.int .i64 (-1))).cell? ⟨P t, 0, none⟩ = some (.slice (some ⟨(D t).l, 0, none⟩) 1 1) := cell_of_heap dt rfl
            have c5 : (w1.setCell ⟨w.heap.size + 1 + 1 + 1, c, none⟩ (.int .i64 (-1))).cell? ⟨P t, 5, none⟩ = some (.int .i64 (r : Int)) := by have q5 := cell_of_heap (o := 5) (v := .int .i64 ((D t).rf : Int)) dt rfl; rw [Hr.out] at q5; exact q5
            have c6 : (w1.setCell ⟨w.heap.size + 1 + 1 + 1, c, none⟩ (.int .i64 (-1))).cell? ⟨P t, 6, none⟩ = some (.bool false) := cell_of_heap dt rfl
            have c7 : (w1.setCell ⟨w.heap.size + 1 + 1 + 1, c, none⟩ (.int .i64 (-1))).cell? ⟨P t, 7, none⟩ = some (.bool false) := cell_of_heap dt rfl
            have c8 : (w1.setCell ⟨w.heap.size + 1 + 1 + 1, c, none⟩ (.int .i64 (-1))).cell? ⟨P t, 8, none⟩ = some (.bool (be t)) := hBt.bg ▸ cell_of_heap dt rfl
            have c14 : (w1.setCell ⟨w.heap.size + 1 + 1 + 1, c, none⟩ (.int .i64 (-1))).cell? ⟨P t, 14, none⟩ = some (.slice none 0 0) := cell_of_heap dt rfl
            have cl : (w1.setCell ⟨w.heap.size + 1 + 1 + 1, c, none⟩ (.int .i64 (-1))).cell? ⟨(D t).l, 0, none⟩ = some (.int .u8 (c : Int)) := by
              have := J.ll t htn
              simp only [if_true] at this
              rw [show lo t % 4 = c from Hc.out] at this
              exact cell_of_heap this rfl
            have ub : (w1.setCell ⟨w.heap.size + 1 + 1 + 1, c, none⟩ (.int .i64 (-1))).cell? ⟨b, off + t * 5 + 2, none⟩ = some (.bool (be t)) := (J.bel.cell hbs).trans (e2 t htn)
            have k1 : ((r : Int) != (r : Int)) = false := by simp
            have k2 : ((c : Int) != (c : Int)) = false := by simp
            have k3 : (be t != be t) = false := by simp
            have htin' : (t : Int) < (k : Int) := htin
            go_wp2
            generalize w1.setCell ⟨w.heap.size + 1 + 1 + 1, c, none⟩ (.int .i64 (-1)) = W at *
            clear ow1 of1 ro1 rf1
            go_quiet (fail)
            clear c0 c5 c6 c7 c8 c14 cl ub k1 k2 k3 dt hnsl
            go_wp2
            go_loopw [22, 23] (fun ct kk w' => ∃ j : Nat, j ≤ 4 ∧ kk = .int .i64 j ∧ ct = .int .i64 (cntTo q j : Int) ∧ Inv w w.heap.size (w.heap.size + 1) (w.heap.size + 1 + 1) (w.heap.size + 1 + 1 + 1) (w.heap.size + 1 + 1 + 1 + 1) (w.heap.size + 1 + 1 + 1 + 1 + 1) k k (2 * k) P (fun i => if i = t then (D t).free else D i) (fun j => lo j % 4) q rr q rr w') (fun _ kk _ => 4 - (intOf kk).toNat)
            case atStart => exact ⟨0, by omega, rfl, rfl, J.drewN _⟩
            case round =>
              clear J
              obtain ⟨j, hj, rfl, rfl, J⟩ := hrel
              have hj256 : j < 256 := by omega
              have hcl := cntTo_le q j
              by_cases hlt : j < 4
              · have hlook : ∀ n, (Instr.lookup 25 (.map (some w.heap.size)) (.int .u64 (kOf j)) true).run Yba.prog (wr.drewN n) = .ok (.tuple #[ptrV ((q j).map P), .bool ((q j).map P).isSome]) (wr.drewN n) := fun n =>
                  PM.look_ok (w := wr.drewN n) (J.md.of_block rfl) kindD Yba.underlying25 hlt
                have s17 := J.s17
                have owc := J.own.cell hlt
                have hj0 : (0 : Int) ≤ (j : Int) := by omega
                have hj4 : (j : Int) < 4 := by omega
                cases hqj : q j with
                | none =>
                  have hst := cntTo_none hqj
                  have Hst : Hid (cntTo q (j + 1) = cntTo q j) := hst
                  clear hst
                  simp only [hqj, Option.map_none, Option.isSome_none, ptrV, oI] at hlook owc
                  go_wp2
                  go_quiet ((go_at_call 7; exact Calls.quiet_of_same (ckey_any j hj256 _)))
                  go_wp2
                  go_roundw
                  case rel => exact ⟨j + 1, by omega, by go_num, by rw [Hst.out], J.drewN _⟩
                  case measure => simp [intOf]; omega
                | some i =>
                  have hst := cntTo_some hqj
                  have Hst : Hid (cntTo q (j + 1) = cntTo q j + 1) := hst
                  clear hst
                  have hik := J.qdk _ _ hqj
                  have ali := J.all.cell hik
                  simp only [hik, if_true] at ali
                  have hne : ∀ n, (binOp .neq 45 (.pointer (some ⟨P i, 0, none⟩)) (.pointer (some ⟨P i, 0, none⟩))).run Yba.prog (wr.drewN n) = .ok (.bool false) (wr.drewN n) := fun n => ptr_neq_same _ _
                  simp only [hqj, Option.map_some, Option.isSome_some, ptrV, oI] at hlook owc
                  go_wp2
                  go_quiet ((go_at_call 7; exact Calls.quiet_of_same (ckey_any j hj256 _)))
                  go_wp2
                  go_roundw
                  case rel => exact ⟨j + 1, by omega, by go_num, by rw [Hst.out]; go_num, J.drewN _⟩
                  case measure => simp [intOf]; omega
              · have hj4 : j = 4 := by omega
                subst hj4
                have s17 := J.s17
                have hlen : ∀ ty, (Builtin.len_ #[25] ty #[.map (some w.heap.size)]).run Yba.prog wr = .ok (.int .i64 (cntTo q 4 : Int)) wr := fun ty => by
                  rw [PM.len J.md Yba.underlying25 ty, cnt_map]
                have hnn : ((cntTo q 4 : Int) != (cntTo q 4 : Int)) = false := by simp
                go_wp2
                clear hlen hnn s17
                go_loopw [22, 26] (fun ct kk w' => ∃ j : Nat, j ≤ 4 ∧ kk = .int .i64 j ∧ ct = .int .i64 (cntTo rr j : Int) ∧ Inv w w.heap.size (w.heap.size + 1) (w.heap.size + 1 + 1) (w.heap.size + 1 + 1 + 1) (w.heap.size + 1 + 1 + 1 + 1) (w.heap.size + 1 + 1 + 1 + 1 + 1) k k (2 * k) P (fun i => if i = t then (D t).free else D i) (fun j => lo j % 4) q rr q rr w') (fun _ kk _ => 4 - (intOf kk).toNat)
                case atStart => exact ⟨0, by omega, rfl, rfl, J⟩
                case round =>
                  clear J
                  obtain ⟨j, hj, rfl, rfl, J⟩ := hrel
                  have hcl := cntTo_le rr j
                  by_cases hlt : j < 4
                  · have hlook : (Instr.lookup 26 (.map (some (w.heap.size + 1))) (.int .i64 (j : Int)) true).run Yba.prog wr = .ok (.tuple #[ptrV ((rr j).map P), .bool ((rr j).map P).isSome]) wr :=
                      PM.look_ok J.mr kindR Yba.underlying26 hlt
                    have s18 := J.s18
                    have owc := J.rown.cell hlt
                    have hj0 : (0 : Int) ≤ (j : Int) := by omega
                    have hj4 : (j : Int) < 4 := by omega
                    cases hqj : rr j with
                    | none =>
                      have Hst : Hid (cntTo rr (j + 1) = cntTo rr j) := cntTo_none hqj
                      simp only [hqj, Option.map_none, Option.isSome_none, ptrV, oI] at hlook owc
                      go_wp2
                      go_roundw
                      case rel => exact ⟨j + 1, by omega, by go_num, by rw [Hst.out], J⟩
                      case measure => simp [intOf]; omega
                    | some i =>
                      have Hst : Hid (cntTo rr (j + 1) = cntTo rr j + 1) := cntTo_some hqj
                      have hik := J.qrk _ _ hqj
                      have ali := J.all.cell hik
                      simp only [hik, if_true] at ali
                      have hne : (binOp .neq 45 (.pointer (some ⟨P i, 0, none⟩)) (.pointer (some ⟨P i, 0, none⟩))).run Yba.prog wr = .ok (.bool false) wr := ptr_neq_same _ _
                      simp only [hqj, Option.map_some, Option.isSome_some, ptrV, oI] at hlook owc
                      go_wp2
                      go_roundw
                      case rel => exact ⟨j + 1, by omega, by go_num, by rw [Hst.out]; go_num, J⟩
                      case measure => simp [intOf]; omega
                  · have hj4 : j = 4 := by omega
                    subst hj4
                    have s18 := J.s18
                    have hlen : ∀ ty, (Builtin.len_ #[26] ty #[.map (some (w.heap.size + 1))]).run Yba.prog wr = .ok (.int .i64 (cntTo rr 4 : Int)) wr := fun ty => by
                      rw [PM.len J.mr Yba.underlying26 ty, cnt_map]
                    have hnn : ((cntTo rr 4 : Int) != (cntTo rr 4 : Int)) = false := by simp
                    go_wp2
                    clear hlen hnn s18
                    go_loopw [29] (fun ii w' => ∃ i : Nat, i ≤ k ∧ ii = .int .i64 i ∧ Inv w w.heap.size (w.heap.size + 1) (w.heap.size + 1 + 1) (w.heap.size + 1 + 1 + 1) (w.heap.size + 1 + 1 + 1 + 1) (w.heap.size + 1 + 1 + 1 + 1 + 1) k k (2 * k) P (fun i => if i = t then (D t).free else D i) (fun j => lo j % 4) q rr q rr w') (fun ii _ => k - (intOf ii).toNat)
                    case atStart => exact ⟨0, by omega, rfl, J⟩
                    case round =>
                      clear J
                      obtain ⟨i, hik, rfl, J⟩ := hrel
                      by_cases hlt : i < k
                      · by_cases hit : i = t
                        · have hb : ((i : Int) == (t : Int)) = true := beq_iff_eq.2 (by omega)
                          have Hit : Hid (i = t) := hit
                          clear hit
                          go_wp2
                          go_roundw
                          case rel => exact ⟨i + 1, by omega, by go_num, J⟩
                          case measure => simp [intOf]; omega
                        · have hb : ((i : Int) == (t : Int)) = false := beq_eq_false_iff_ne.2 (by omega)
                          have ali := J.all.cell hlt
                          simp only [hlt, if_true] at ali
                          have hBi := hB i hlt
                          have di := J.dl i hlt
                          simp only [hit, if_false] at di
                          obtain ⟨m, hm⟩ : ∃ m, co i % 3 = m := ⟨_, rfl⟩
                          have hmI : (co i : Int) % 3 = (m : Int) := by omega
                          obtain ⟨a, ha⟩ := hBi.cs
                          rw [hm] at ha
                          have c6 : wr.cell? ⟨P i, 6, none⟩ = some (.bool (bi i)) := hBi.bd ▸ cell_of_heap di rfl
                          have c7 : wr.cell? ⟨P i, 7, none⟩ = some (.bool true) := hBi.op ▸ cell_of_heap di rfl
                          have c14 : wr.cell? ⟨P i, 14, none⟩ = some (.slice a m m) := ha ▸ cell_of_heap di rfl
                          have hbsi := lt_of_cell (e0 i hlt)
                          have u3 : wr.cell? ⟨b, off + i * 5 + 3, none⟩ = some (.bool (bi i)) := (J.bel.cell hbsi).trans (e3 i hlt)
                          have u4 : wr.cell? ⟨b, off + i * 5 + 4, none⟩ = some (.int .u8 (co i : Int)) := (J.bel.cell hbsi).trans (e4 i hlt)
                          have k1 : (bi i != bi i) = false := by simp
                          have k2 : ((m : Int) != (m : Int)) = false := by simp
                          have hi0 : (0 : Int) ≤ (i : Int) := by omega
                          have hin : (i : Int) < (k : Int) := by omega
                          have hb4 := l4 i
                          clear hm ha di hBi hit
                          go_wp2
                          go_quiet (fail)
                          go_wp2
                          go_roundw
                          case rel => exact ⟨i + 1, by omega, by go_num, J.drewN _⟩
                          case measure => simp [intOf]; omega
                      · go_wp2
                        go_ret
                        exact ⟨rfl, J.bel⟩
end Go.Proofs.Ybulkatxe
