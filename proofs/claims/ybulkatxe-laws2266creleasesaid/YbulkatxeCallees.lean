import Derived.Test.YbulkatxeMaps
import Derived.Deep.RegionHeld3
import Derived.Deep.QuietTactic
import Derived.BigQuiet
import Derived.Deep.DrawnRows
import Derived.LaidEqlPtr
namespace Go.Proofs.Ybulkatxe
open Go.RowKit
set_option linter.unusedVariables false
set_option linter.unusedSimpArgs false
attribute [local go_sem ↓] Go.wp_at_zero Go.wp_at_succ

set_option maxHeartbeats 400000 in
theorem keyOf_any (b off cap c : Nat) (h1 : c < 256) (w : World) (hc : w.cell? ⟨b, off, none⟩ = some (.int .u8 (c : Int))) :
    Calls Yba.prog 8 #[.slice (some ⟨b, off, none⟩) 1 cap] w fun e w' => e = .returned (.int .u64 (kOf c)) ∧ w' = w := by
  have hk := or_k c h1
  go_enter Yba.func8, Yba.ntmps8
  go_wp2
  refine wp_loop_rounds 2 ?_
  rw [rounds_succ]
  go_wp2
  rw [rounds_succ]
  go_wp2
  go_ret
  exact ⟨rfl, rfl⟩

set_option maxHeartbeats 400000 in
theorem ckey_any (c : Nat) (h1 : c < 256) (w : World) :
    Calls Yba.prog 7 #[.int .i64 (c : Int)] w fun e w' => e = .returned (.int .u64 (kOf c)) ∧ w' = w := by
  have hk := or_k c h1
  go_enter Yba.func7, Yba.ntmps7
  go_wp2
  go_ret
  exact ⟨rfl, rfl⟩

/-- bind: the dialogue's reference and mark are stored, then the map's entry. -/
theorem bind_any (S MR P r n : Nat) (q : Nat → Option Nat) (hr : r < 4) (hn : n < maxLen) (w : World) (v5 v6 : Value)
    (hs : w.cell? ⟨S, 18, none⟩ = some (.map (some MR))) (hSP : S ≠ P)
    (c5 : w.cell? ⟨P, 5, none⟩ = some v5) (c6 : w.cell? ⟨P, 6, none⟩ = some v6) (f5 : w.frozen? ⟨P, 5, none⟩ = false) (f6 : w.frozen? ⟨P, 6, none⟩ = false)
    (hm : PM 2 kyR w MR n q) :
    Calls Yba.prog 5 #[.pointer (some ⟨S, 0, none⟩), .int .i64 (r : Int), .pointer (some ⟨P, 0, none⟩)] w fun e w' => e = .returned (.tuple #[]) ∧
      PM 2 kyR w' MR (n + 1) (upd q r (some P)) ∧ ((w.setCell ⟨P, 5, none⟩ (.int .i64 (r : Int))).setCell ⟨P, 6, none⟩ (.bool true)).grownBy w' (some MR) := by
  have hMP : MR ≠ P := (hm.ne_of_cell c5).symm
  have hm1 : PM 2 kyR ((w.setCell ⟨P, 5, none⟩ (.int .i64 (r : Int))).setCell ⟨P, 6, none⟩ (.bool true)) MR n q := hm.of_block (by rw [Below.heap_setCell _ _ _ _ hMP, Below.heap_setCell _ _ _ _ hMP])
  obtain ⟨w1, hrun, hm2, hg⟩ := hm1.put kindR Yba.underlying26 hn hr P
  unfold kvR at hrun
  go_enter Yba.func5, Yba.ntmps5
  go_wp2
  go_end0
  exact ⟨rfl, hm2, hg⟩

/-- startTransaction: begun is set, then the map's entry. -/
theorem start_any (S MD P L c n : Nat) (q : Nat → Option Nat) (hc : c < 4) (hn : n < maxLen) (w : World) (v8 : Value)
    (hs : w.cell? ⟨S, 17, none⟩ = some (.map (some MD))) (hSP : S ≠ P) (hLP : L ≠ P)
    (c0 : w.cell? ⟨P, 0, none⟩ = some (.slice (some ⟨L, 0, none⟩) 1 1)) (hl : w.cell? ⟨L, 0, none⟩ = some (.int .u8 (c : Int)))
    (c8 : w.cell? ⟨P, 8, none⟩ = some v8) (f8 : w.frozen? ⟨P, 8, none⟩ = false)
    (hm : PM 67 kyD w MD n q) :
    Calls Yba.prog 4 #[.pointer (some ⟨S, 0, none⟩), .pointer (some ⟨P, 0, none⟩)] w fun e w' => e = .returned (.tuple #[]) ∧
      PM 67 kyD w' MD (n + 1) (upd q c (some P)) ∧ (w.setCell ⟨P, 8, none⟩ (.bool true)).grownBy w' (some MD) := by
  have hMP : MD ≠ P := (hm.ne_of_cell c0).symm
  have hMS := hm.ne_of_cell hs
  have hML := hm.ne_of_cell hl
  have hm1 : PM 67 kyD (w.setCell ⟨P, 8, none⟩ (.bool true)).drew MD n q := hm.of_block (by show (w.setCell ⟨P, 8, none⟩ (.bool true)).heap[MD]? = _; rw [Below.heap_setCell _ _ _ _ hMP])
  obtain ⟨w1, hrun, hm2, hg⟩ := hm1.put kindD Yba.underlying25 hn hc P
  unfold kvD at hrun
  have hl1 : (w.setCell ⟨P, 8, none⟩ (.bool true)).cell? ⟨L, 0, none⟩ = some (.int .u8 (c : Int)) := by rw [World.cell?_of_block (w := w) (Below.heap_setCell _ _ _ _ hLP)]; exact hl
  have hs1 : (w.setCell ⟨P, 8, none⟩ (.bool true)).cell? ⟨S, 17, none⟩ = some (.map (some MD)) := by rw [World.cell?_of_block (w := w) (Below.heap_setCell _ _ _ _ hSP)]; exact hs
  have hp1 : (w.setCell ⟨P, 8, none⟩ (.bool true)).cell? ⟨P, 0, none⟩ = some (.slice (some ⟨L, 0, none⟩) 1 1) := by simpa [go_sem] using c0
  have a1 := hg.cell hs1 (by simpa using hMS)
  have a2 := hg.cell hp1 (by simpa using hMP.symm)
  have a3 := hg.cell hl1 (by simpa using hML)
  have hg' : Hid ((w.setCell ⟨P, 8, none⟩ (.bool true)).grownBy w1 (some MD)) := ⟨hg.os, hg.tape, hg.output, hg.size, hg.block⟩
  clear hg hm1
  go_enter Yba.func4, Yba.ntmps4
  go_wp2
  go_region_held3 (fun w' => w'.cell? ⟨S, 17, none⟩ = some (.map (some MD)) ∧ w'.cell? ⟨P, 0, none⟩ = some (.slice (some ⟨L, 0, none⟩) 1 1) ∧ w'.cell? ⟨L, 0, none⟩ = some (.int .u8 (c : Int))) (simp [*, go_sem])
    (first | (go_at_call 8; refine (keyOf_any L 0 1 c (by omega) _ ?_).mono ?_; (simp [*]); rintro e w' ⟨rfl, rfl⟩))
  all_goals go_wp2
  go_end0
  exact ⟨rfl, hm2, hg'.out⟩

/-- w' is w with new blocks, and with writes to the blocks of A alone. -/
structure Frm (A : Nat → Prop) (w w' : World) : Prop where
  os : w'.os = w.os
  tape : w'.tape = w.tape
  output : w'.output = w.output
  size : w.heap.size ≤ w'.heap.size
  block : ∀ k, k < w.heap.size → ¬ A k → w'.heap[k]? = w.heap[k]?

theorem Frm.of_grown {w w' : World} {b : Nat} {A : Nat → Prop} (h : w.grownBy w' (some b)) (hA : A b) : Frm A w w' :=
  ⟨h.os, h.tape, h.output, h.size, fun k hk ha => h.block k hk (fun e => ha (by cases e; exact hA))⟩
theorem Frm.refl (A : Nat → Prop) (w : World) : Frm A w w := ⟨rfl, rfl, rfl, Nat.le_refl _, fun _ _ _ => rfl⟩
theorem Frm.trans {A : Nat → Prop} {a b c : World} (h : Frm A a b) (k : Frm A b c) : Frm A a c :=
  ⟨k.os.trans h.os, k.tape.trans h.tape, k.output.trans h.output, Nat.le_trans h.size k.size, fun i hi ha => (k.block i (Nat.lt_of_lt_of_le hi h.size) ha).trans (h.block i hi ha)⟩
theorem Frm.mono' {A B : Nat → Prop} {a b c : World} (k : Frm B b c) (h : Frm A a b) : Frm (fun k => A k ∨ B k) a c :=
  ⟨k.os.trans h.os, k.tape.trans h.tape, k.output.trans h.output, Nat.le_trans h.size k.size, fun i hi ha => (k.block i (Nat.lt_of_lt_of_le hi h.size) (fun e => ha (.inr e))).trans (h.block i hi (fun e => ha (.inl e)))⟩
theorem Frm.drew {A : Nat → Prop} {a w : World} (h : Frm A a w) : Frm A a w.drew := ⟨h.os, h.tape, h.output, h.size, h.block⟩
theorem Frm.setCell {A : Nat → Prop} {a w : World} (h : Frm A a w) {p : Addr} (hp : A p.block) (u : Value) : Frm A a (w.setCell p u) :=
  h.trans ⟨rfl, rfl, rfl, by simp [World.setCell], fun k _ ha => Below.heap_setCell _ _ _ _ (fun e => ha (by rw [e]; exact hp))⟩
theorem Frm.alloc {A : Nat → Prop} {a w : World} (h : Frm A a w) (o : Obj) : Frm A a (w.alloc o) :=
  h.trans ⟨rfl, rfl, rfl, by simp, fun k hk _ => Below.heap_alloc _ _ _ hk⟩

theorem lt_of_cell {w : World} {b o : Nat} {v : Value} (h : w.cell? ⟨b, o, none⟩ = some v) : b < w.heap.size := by
  unfold World.cell? at h
  split at h
  · rename_i hb; exact (Array.getElem?_eq_some_iff.1 hb).1
  · cases h


theorem size62 : (Yba.prog.info? 62).map (·.size) = some 18 := by kernel_rfl

theorem ptr_same (w : World) (P : Nat) : (binOp .eql 45 (.pointer (some ⟨P, 0, none⟩)) (.pointer (some ⟨P, 0, none⟩))).run Yba.prog w = .ok (.bool true) w := by
  obtain ⟨j, hj, _⟩ := Option.map_eq_some_iff.1 size62
  exact run_eql_ptr_same w _ Yba.underlying45 hj

theorem ptr_other (w : World) (o : Option Nat) (P : Nat) (hne : o ≠ some P) (ho : ∀ p, o = some p → ∃ ca ta, w.heap[p]? = some (.cells ca ta (0, 0))) (hP : ∃ cb tb, w.heap[P]? = some (.cells cb tb (0, 0))) :
    (binOp .eql 45 (ptrV o) (.pointer (some ⟨P, 0, none⟩))).run Yba.prog w = .ok (.bool false) w := by
  obtain ⟨j, hj, hsz⟩ := Option.map_eq_some_iff.1 size62
  cases o with
  | none =>
    have h : ∀ d : Nat, (Op.equalIn (d + 1) 45 (.pointer none) (.pointer (some ⟨P, 0, none⟩))).run Yba.prog w = .ok false w := fun d => by
      simp [Op.equalIn, run_underlying Yba.underlying45, sizeOf, typeInfo, hj]
    simp only [binOp, ptrV]
    simp [Op.equal, Op.maxDepth, h 9999]
  | some p =>
    obtain ⟨ca, ta, ha⟩ := ho p rfl
    obtain ⟨cb, tb, hb⟩ := hP
    exact run_eql_ptr_other w Yba.underlying45 hj (by omega) (by intro e; apply hne; cases e; rfl) ha hb

set_option maxRecDepth 100000 in
set_option maxHeartbeats 800000 in
/-- release of a dialogue that is not bound. -/
theorem release_free (S MD P L c nD : Nat) (qD : Nat → Option Nat) (hc : c < 4) (w : World) (v7 v14 : Value)
    (s17 : w.cell? ⟨S, 17, none⟩ = some (.map (some MD))) (hSP : S ≠ P)
    (c0 : w.cell? ⟨P, 0, none⟩ = some (.slice (some ⟨L, 0, none⟩) 1 1)) (hl : w.cell? ⟨L, 0, none⟩ = some (.int .u8 (c : Int)))
    (c6 : w.cell? ⟨P, 6, none⟩ = some (.bool false)) (c7 : w.cell? ⟨P, 7, none⟩ = some v7) (c14 : w.cell? ⟨P, 14, none⟩ = some v14)
    (f6 : w.frozen? ⟨P, 6, none⟩ = false) (f7 : w.frozen? ⟨P, 7, none⟩ = false) (f14 : w.frozen? ⟨P, 14, none⟩ = false)
    (hm : PM 67 kyD w MD nD qD) :
    Calls Yba.prog 6 #[.pointer (some ⟨S, 0, none⟩), .pointer (some ⟨P, 0, none⟩)] w fun e w' => e = .returned (.tuple #[]) ∧
      ∃ w2, Frm (fun k => k = MD) w w2 ∧ PM 67 kyD w2 MD nD (upd qD c none) ∧ w' = ((w2.setCell ⟨P, 6, none⟩ (.bool false)).setCell ⟨P, 7, none⟩ (.bool false)).setCell ⟨P, 14, none⟩ (.slice none 0 0) := by
  have hMP : MD ≠ P := (hm.ne_of_cell c0).symm
  have hMS := hm.ne_of_cell s17
  have hML := hm.ne_of_cell hl
  have hm1 : PM 67 kyD w.drew MD nD qD := hm.of_block rfl
  obtain ⟨w1, hrun, hm2, hg⟩ := hm1.drop kindD Yba.underlying25 hc 0
  unfold kvD at hrun
  have a1 := hg.cell (show w.drew.cell? _ = _ from s17) (by simpa using hMS)
  have a2 := hg.cell (show w.drew.cell? _ = _ from c0) (by simpa using hMP.symm)
  have a3 := hg.cell (show w.drew.cell? _ = _ from hl) (by simpa using hML)
  have a4 := hg.cell (show w.drew.cell? _ = _ from c6) (by simpa using hMP.symm)
  have a5 := hg.cell (show w.drew.cell? _ = _ from c7) (by simpa using hMP.symm)
  have a6 := hg.cell (show w.drew.cell? _ = _ from c14) (by simpa using hMP.symm)
  go_enter Yba.func6, Yba.ntmps6
  go_wp2
  go_region_held3 (fun w' => w'.cell? ⟨S, 17, none⟩ = some (.map (some MD)) ∧ w'.cell? ⟨P, 0, none⟩ = some (.slice (some ⟨L, 0, none⟩) 1 1) ∧ w'.cell? ⟨L, 0, none⟩ = some (.int .u8 (c : Int))) (simp [*, go_sem])
    (first | (go_at_call 8; refine (keyOf_any L 0 1 c (by omega) _ ?_).mono ?_; (simp [*]); rintro e w' ⟨rfl, rfl⟩))
  have g6 : w1.frozen? ⟨P, 6, none⟩ = false := (World.frozen?_of_block (w := w.drew) (hg.block P (by simpa using lt_of_cell c0) (by simpa using hMP.symm))).trans f6
  have g7 : w1.frozen? ⟨P, 7, none⟩ = false := (World.frozen?_of_block (w := w.drew) (hg.block P (by simpa using lt_of_cell c0) (by simpa using hMP.symm))).trans f7
  have g14 : w1.frozen? ⟨P, 14, none⟩ = false := (World.frozen?_of_block (w := w.drew) (hg.block P (by simpa using lt_of_cell c0) (by simpa using hMP.symm))).trans f14
  have hfr : Hid (Frm (fun k => k = MD) w w1) := Frm.of_grown (A := fun k => k = MD) (w := w) ⟨hg.os, hg.tape, hg.output, hg.size, hg.block⟩ rfl
  clear hrun hg hm hm1 c0 c6 c7 c14 f6 f7 f14 s17 hl
  go_wp2
  go_quiet (fail)
  go_wp2
  go_end0
  exact ⟨rfl, w1.drewN nq, ⟨hfr.out.os, hfr.out.tape, hfr.out.output, hfr.out.size, hfr.out.block⟩, hm2.of_block rfl, rfl⟩

set_option maxRecDepth 100000 in
set_option maxHeartbeats 800000 in
/-- release of a dialogue that is bound, but whose reference is another's by now. -/
theorem release_miss (S MD MR P L c r nD nR : Nat) (qD qR : Nat → Option Nat) (hc : c < 4) (hr : r < 4) (w : World) (v7 v14 : Value)
    (s17 : w.cell? ⟨S, 17, none⟩ = some (.map (some MD))) (s18 : w.cell? ⟨S, 18, none⟩ = some (.map (some MR))) (hSP : S ≠ P) (hMM : MR ≠ MD)
    (c0 : w.cell? ⟨P, 0, none⟩ = some (.slice (some ⟨L, 0, none⟩) 1 1)) (hl : w.cell? ⟨L, 0, none⟩ = some (.int .u8 (c : Int)))
    (c5 : w.cell? ⟨P, 5, none⟩ = some (.int .i64 (r : Int)))
    (c6 : w.cell? ⟨P, 6, none⟩ = some (.bool true)) (c7 : w.cell? ⟨P, 7, none⟩ = some v7) (c14 : w.cell? ⟨P, 14, none⟩ = some v14)
    (f6 : w.frozen? ⟨P, 6, none⟩ = false) (f7 : w.frozen? ⟨P, 7, none⟩ = false) (f14 : w.frozen? ⟨P, 14, none⟩ = false)
    (hm : PM 67 kyD w MD nD qD) (hR : PM 2 kyR w MR nR qR) (hne : qR r ≠ some P)
    (ho : ∀ p, qR r = some p → ∃ ca ta, w.heap[p]? = some (.cells ca ta (0, 0))) (hP : ∃ cb tb, w.heap[P]? = some (.cells cb tb (0, 0))) :
    Calls Yba.prog 6 #[.pointer (some ⟨S, 0, none⟩), .pointer (some ⟨P, 0, none⟩)] w fun e w' => e = .returned (.tuple #[]) ∧
      ∃ w2, Frm (fun k => k = MD) w w2 ∧ PM 67 kyD w2 MD nD (upd qD c none) ∧ w' = ((w2.setCell ⟨P, 6, none⟩ (.bool false)).setCell ⟨P, 7, none⟩ (.bool false)).setCell ⟨P, 14, none⟩ (.slice none 0 0) := by
  have hMP : MD ≠ P := (hm.ne_of_cell c0).symm
  have hMS := hm.ne_of_cell s17
  have hML := hm.ne_of_cell hl
  have hm1 : PM 67 kyD w.drew MD nD qD := hm.of_block rfl
  obtain ⟨w1, hrun, hm2, hg⟩ := hm1.drop kindD Yba.underlying25 hc 0
  unfold kvD at hrun
  have hR1 : PM 2 kyR w1 MR nR qR := hR.of_block (hg.block MR (by simpa using hR.lt) (by simpa using hMM))
  have hlook : ∀ n, (Instr.lookup 26 (.map (some MR)) (.int .i64 (r : Int)) false).run Yba.prog (w1.drewN n) = .ok (ptrV (qR r)) (w1.drewN n) := fun n =>
    PM.look (w := w1.drewN n) (hR1.of_block rfl) kindR Yba.underlying26 hr
  have heq : ∀ n, (binOp .eql 45 (ptrV (qR r)) (.pointer (some ⟨P, 0, none⟩))).run Yba.prog (w1.drewN n) = .ok (.bool false) (w1.drewN n) := fun n =>
    ptr_other _ _ _ hne (fun p hp => by
      obtain ⟨ca, ta, h⟩ := ho p hp
      refine ⟨ca, ta, (hg.block p ((Array.getElem?_eq_some_iff.1 h).1) ?_).trans h⟩
      intro e
      cases e
      obtain ⟨D, ⟨es, cl, h1, _⟩, _⟩ := hm
      rw [h] at h1; cases h1) (by
      obtain ⟨ca, ta, h⟩ := hP
      exact ⟨ca, ta, (hg.block P ((Array.getElem?_eq_some_iff.1 h).1) (by simpa using hMP.symm)).trans h⟩)
  have a1 := hg.cell (show w.drew.cell? _ = _ from s17) (by simpa using hMS)
  have a1' := hg.cell (show w.drew.cell? _ = _ from s18) (by simpa using hMS)
  have a2 := hg.cell (show w.drew.cell? _ = _ from c0) (by simpa using hMP.symm)
  have a3 := hg.cell (show w.drew.cell? _ = _ from hl) (by simpa using hML)
  have a4 := hg.cell (show w.drew.cell? _ = _ from c6) (by simpa using hMP.symm)
  have a4' := hg.cell (show w.drew.cell? _ = _ from c5) (by simpa using hMP.symm)
  have a5 := hg.cell (show w.drew.cell? _ = _ from c7) (by simpa using hMP.symm)
  have a6 := hg.cell (show w.drew.cell? _ = _ from c14) (by simpa using hMP.symm)
  obtain ⟨pv, hpv⟩ : ∃ o, ptrV (qR r) = .pointer o := by cases qR r <;> exact ⟨_, rfl⟩
  rw [hpv] at heq
  simp only [hpv] at hlook heq
  clear hpv
  go_enter Yba.func6, Yba.ntmps6
  go_wp2
  go_region_held3 (fun w' => w'.cell? ⟨S, 17, none⟩ = some (.map (some MD)) ∧ w'.cell? ⟨P, 0, none⟩ = some (.slice (some ⟨L, 0, none⟩) 1 1) ∧ w'.cell? ⟨L, 0, none⟩ = some (.int .u8 (c : Int))) (simp [*, go_sem])
    (first | (go_at_call 8; refine (keyOf_any L 0 1 c (by omega) _ ?_).mono ?_; (simp [*]); rintro e w' ⟨rfl, rfl⟩))
  have g6 : w1.frozen? ⟨P, 6, none⟩ = false := (World.frozen?_of_block (w := w.drew) (hg.block P (by simpa using lt_of_cell c0) (by simpa using hMP.symm))).trans f6
  have g7 : w1.frozen? ⟨P, 7, none⟩ = false := (World.frozen?_of_block (w := w.drew) (hg.block P (by simpa using lt_of_cell c0) (by simpa using hMP.symm))).trans f7
  have g14 : w1.frozen? ⟨P, 14, none⟩ = false := (World.frozen?_of_block (w := w.drew) (hg.block P (by simpa using lt_of_cell c0) (by simpa using hMP.symm))).trans f14
  have hfr : Hid (Frm (fun k => k = MD) w w1) := Frm.of_grown (A := fun k => k = MD) (w := w) ⟨hg.os, hg.tape, hg.output, hg.size, hg.block⟩ rfl
  clear hrun hg hm hm1 c0 c6 c7 c14 f6 f7 f14 s17 hl s18 c5 hR hR1 ho hP hne
  go_wp2
  go_quiet (fail)
  go_wp2
  go_end0
  exact ⟨rfl, w1.drewN nq, ⟨hfr.out.os, hfr.out.tape, hfr.out.output, hfr.out.size, hfr.out.block⟩, hm2.of_block rfl, rfl⟩

set_option maxRecDepth 100000 in
set_option maxHeartbeats 800000 in
/-- release of a dialogue that is bound and whose reference is its own. -/
theorem release_hit (S MD MR P L c r nD nR : Nat) (qD qR : Nat → Option Nat) (hc : c < 4) (hr : r < 4) (w : World) (v7 v14 : Value)
    (s17 : w.cell? ⟨S, 17, none⟩ = some (.map (some MD))) (s18 : w.cell? ⟨S, 18, none⟩ = some (.map (some MR))) (hSP : S ≠ P) (hMM : MR ≠ MD)
    (c0 : w.cell? ⟨P, 0, none⟩ = some (.slice (some ⟨L, 0, none⟩) 1 1)) (hl : w.cell? ⟨L, 0, none⟩ = some (.int .u8 (c : Int)))
    (c5 : w.cell? ⟨P, 5, none⟩ = some (.int .i64 (r : Int)))
    (c6 : w.cell? ⟨P, 6, none⟩ = some (.bool true)) (c7 : w.cell? ⟨P, 7, none⟩ = some v7) (c14 : w.cell? ⟨P, 14, none⟩ = some v14)
    (f6 : w.frozen? ⟨P, 6, none⟩ = false) (f7 : w.frozen? ⟨P, 7, none⟩ = false) (f14 : w.frozen? ⟨P, 14, none⟩ = false)
    (hm : PM 67 kyD w MD nD qD) (hR : PM 2 kyR w MR nR qR) (hq : qR r = some P) :
    Calls Yba.prog 6 #[.pointer (some ⟨S, 0, none⟩), .pointer (some ⟨P, 0, none⟩)] w fun e w' => e = .returned (.tuple #[]) ∧
      ∃ w2, Frm (fun k => k = MD ∨ k = MR) w w2 ∧ PM 67 kyD w2 MD nD (upd qD c none) ∧ PM 2 kyR w2 MR nR (upd qR r none) ∧ w' = ((w2.setCell ⟨P, 6, none⟩ (.bool false)).setCell ⟨P, 7, none⟩ (.bool false)).setCell ⟨P, 14, none⟩ (.slice none 0 0) := by
  have hMP : MD ≠ P := (hm.ne_of_cell c0).symm
  have hMS := hm.ne_of_cell s17
  have hML := hm.ne_of_cell hl
  have hm1 : PM 67 kyD w.drew MD nD qD := hm.of_block rfl
  obtain ⟨w1, hrun, hm2, hg⟩ := hm1.drop kindD Yba.underlying25 hc 0
  unfold kvD at hrun
  have hR1 : PM 2 kyR w1 MR nR qR := hR.of_block (hg.block MR (by simpa using hR.lt) (by simpa using hMM))
  have hlook : ∀ n, (Instr.lookup 26 (.map (some MR)) (.int .i64 (r : Int)) false).run Yba.prog (w1.drewN n) = .ok (ptrV (qR r)) (w1.drewN n) := fun n =>
    PM.look (w := w1.drewN n) (hR1.of_block rfl) kindR Yba.underlying26 hr
  have heq : ∀ n, (binOp .eql 45 (.pointer (some ⟨P, 0, none⟩)) (.pointer (some ⟨P, 0, none⟩))).run Yba.prog (w1.drewN n) = .ok (.bool true) (w1.drewN n) := fun n => ptr_same _ _
  simp only [hq, ptrV] at hlook
  have a1 := hg.cell (show w.drew.cell? _ = _ from s17) (by simpa using hMS)
  have a1' := hg.cell (show w.drew.cell? _ = _ from s18) (by simpa using hMS)
  have a2 := hg.cell (show w.drew.cell? _ = _ from c0) (by simpa using hMP.symm)
  have a3 := hg.cell (show w.drew.cell? _ = _ from hl) (by simpa using hML)
  have a4 := hg.cell (show w.drew.cell? _ = _ from c6) (by simpa using hMP.symm)
  have a4' := hg.cell (show w.drew.cell? _ = _ from c5) (by simpa using hMP.symm)
  have a5 := hg.cell (show w.drew.cell? _ = _ from c7) (by simpa using hMP.symm)
  have a6 := hg.cell (show w.drew.cell? _ = _ from c14) (by simpa using hMP.symm)
  go_enter Yba.func6, Yba.ntmps6
  go_wp2
  go_region_held3 (fun w' => w'.cell? ⟨S, 17, none⟩ = some (.map (some MD)) ∧ w'.cell? ⟨P, 0, none⟩ = some (.slice (some ⟨L, 0, none⟩) 1 1) ∧ w'.cell? ⟨L, 0, none⟩ = some (.int .u8 (c : Int))) (simp [*, go_sem])
    (first | (go_at_call 8; refine (keyOf_any L 0 1 c (by omega) _ ?_).mono ?_; (simp [*]); rintro e w' ⟨rfl, rfl⟩))
  have g6 : w1.frozen? ⟨P, 6, none⟩ = false := (World.frozen?_of_block (w := w.drew) (hg.block P (by simpa using lt_of_cell c0) (by simpa using hMP.symm))).trans f6
  have g7 : w1.frozen? ⟨P, 7, none⟩ = false := (World.frozen?_of_block (w := w.drew) (hg.block P (by simpa using lt_of_cell c0) (by simpa using hMP.symm))).trans f7
  have g14 : w1.frozen? ⟨P, 14, none⟩ = false := (World.frozen?_of_block (w := w.drew) (hg.block P (by simpa using lt_of_cell c0) (by simpa using hMP.symm))).trans f14
  have hfr : Hid (Frm (fun k => k = MD) w w1) := Frm.of_grown (A := fun k => k = MD) (w := w) ⟨hg.os, hg.tape, hg.output, hg.size, hg.block⟩ rfl
  have hRP := hR.ne_of_cell c0
  have hRS := hR.ne_of_cell s18
  clear hrun hg hm hm1 c0 c6 c7 c14 f6 f7 f14 s17 hl s18 c5 hR
  go_wp2
  go_quiet (fail)
  have hR2 : PM 2 kyR (w1.drewN (nq + 1)) MR nR qR := hR1.of_block rfl
  obtain ⟨w3, hrun, hR3, hg⟩ := hR2.drop kindR Yba.underlying26 hr 0
  unfold kvR at hrun
  have b1 := hg.cell (show w1.cell? _ = _ from a1') (by simpa using hRS)
  have b4 := hg.cell (show w1.cell? _ = _ from a4) (by simpa using hRP)
  have b4' := hg.cell (show w1.cell? _ = _ from a4') (by simpa using hRP)
  have b5 := hg.cell (show w1.cell? _ = _ from a5) (by simpa using hRP)
  have b6 := hg.cell (show w1.cell? _ = _ from a6) (by simpa using hRP)
  have hP1 := lt_of_cell a2
  have k6 : w3.frozen? ⟨P, 6, none⟩ = false := (World.frozen?_of_block (w := w1) (hg.block P (by simpa using hP1) (by simpa using hRP))).trans g6
  have k7 : w3.frozen? ⟨P, 7, none⟩ = false := (World.frozen?_of_block (w := w1) (hg.block P (by simpa using hP1) (by simpa using hRP))).trans g7
  have k14 : w3.frozen? ⟨P, 14, none⟩ = false := (World.frozen?_of_block (w := w1) (hg.block P (by simpa using hP1) (by simpa using hRP))).trans g14
  have hf3 : Hid (Frm (fun k => k = MD ∨ k = MR) w w3) := (Frm.of_grown (A := fun k => k = MR) (w := w1) ⟨hg.os, hg.tape, hg.output, hg.size, hg.block⟩ rfl).mono' hfr.out
  have hm3 : PM 67 kyD w3 MD nD (upd qD c none) := hm2.of_block (hg.block MD (by simpa using hm2.lt) (by simpa using hMM.symm))
  clear hg hfr hR2 hR1 hm2 hlook heq
  go_wp2
  go_region_held3 (fun w' => w'.cell? ⟨S, 18, none⟩ = some (.map (some MR)) ∧ w'.cell? ⟨P, 5, none⟩ = some (.int .i64 (r : Int))) (simp [*, go_sem]) (fail)
  go_wp2
  go_end0
  exact ⟨rfl, w3, hf3.out, hm3, hR3, rfl⟩

end Go.Proofs.Ybulkatxe
