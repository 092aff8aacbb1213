/-
  (*Index).key at int fields of eight bytes.
-/
import Derived.Test.YbulkatzwDefs
namespace Go.Proofs.Ybulkatzw
open Go.RowKit Go.Lib
set_option linter.unusedVariables false
set_option linter.unusedSimpArgs false
set_option maxRecDepth 100000

set_option maxHeartbeats 800000 in
theorem keyI (X V : Nat) (po : Option Addr) (N pc : Nat) (p : Nat → Nat) (nf : Nat) (ty sz : Nat → Nat) (val : Nat → Value) (part : Nat → List UInt8) (w : World)
    (hI : IxOk w X po N pc p nf ty sz) (hV : ∀ j, j < N → w.cell? ⟨V, j, none⟩ = some (val j)) (hF : ∀ j, j < N → ty (p j) = 1 ∧ sz (p j) = 8 ∧ ∃ x, val j = .iface 2 (.int .i64 x) ∧ part j = beN (xr x 9223372036854775808) 8) (hL : ∀ j, j < N → (part j).length ≤ 2048) :
    Calls Yba.prog 10 #[.pointer (some ⟨X, 0, none⟩), .slice (some ⟨V, 0, none⟩) N N] w fun e w' => ∃ v', e = .returned v' ∧ Own w' w.heap.size v' (flat part N) ∧ Below w.heap.size w w' := by
  obtain ⟨i5, hi5, hs5, hby5, hz5⟩ := info5
  obtain ⟨T, D, FS, x0, x3, t2, d0, fs⟩ := hI.ex
  have hpos : Hid (N = 0 ∨ ∃ P, po = some ⟨P, 0, none⟩ ∧ N ≤ pc ∧ ∀ j, j < N → w.cell? ⟨P, j, none⟩ = some (.int .i64 (p j : Int)) ∧ p j < nf) := hI.pos
  have hsm := hI.small
  have HV : Hid (∀ j, j < N → w.cell? ⟨V, j, none⟩ = some (val j)) := hV
  have HF : Hid (∀ j, j < N → ty (p j) = 1 ∧ sz (p j) = 8 ∧ ∃ x, val j = .iface 2 (.int .i64 x) ∧ part j = beN (xr x 9223372036854775808) 8) := hF
  have HL : Hid (∀ j, j < N → (part j).length ≤ 2048) := hL
  have HFS : Hid (∀ i, i < nf → w.cell? ⟨FS, i * 3, none⟩ = some (.string ⟨#[]⟩) ∧ w.cell? ⟨FS, i * 3 + 1, none⟩ = some (.int .u8 (ty i : Int)) ∧ w.cell? ⟨FS, i * 3 + 2, none⟩ = some (.int .i64 (sz i : Int))) := fs
  have HX : Hid (w.cell? ⟨X, 0, none⟩ = some (.pointer (some ⟨T, 0, none⟩)) ∧ w.cell? ⟨X, 3, none⟩ = some (.slice po N pc) ∧ w.cell? ⟨T, 2, none⟩ = some (.pointer (some ⟨D, 0, none⟩)) ∧ w.cell? ⟨D, 0, none⟩ = some (.slice (some ⟨FS, 0, none⟩) nf nf)) := ⟨x0, x3, t2, d0⟩
  clear hI hV hF hL fs x0 t2 d0
  go_enter Yba.func10, Yba.ntmps10
  go_wp2
  clear x3
  go_loopw [5, 6, 7, 8, 9, 15] (fun v5 _ _ _ _ v15 wr => ∃ k : Nat, k ≤ N ∧ v15 = .int .i64 k ∧ ∃ a c, v5 = .slice a (flat part k).length c ∧ Own wr w.heap.size (.slice a (flat part k).length c) (flat part k) ∧ Below w.heap.size w wr) (fun _ _ _ _ _ v15 _ => N - (intOf v15).toNat)
  case atStart => exact ⟨0, Nat.zero_le _, rfl, none, 0, rfl, Own.nil _ _, Below.refl _ _⟩
  case round =>
    obtain ⟨k, hk, rfl, a, c, rfl, hO, hb⟩ := hrel
    have hfl := flat_le HL.out k hk
    have HO : Hid (Own wr w.heap.size (.slice a (flat part k).length c) (flat part k)) := hO
    clear hO
    by_cases hlt : k < N
    · rcases hpos.out with h0 | ⟨P, rfl, hpc, hP⟩
      · omega
      · obtain ⟨y0, y3, y2, yd⟩ := HX.out
        have hp := (hP k hlt).2
        have hcP := (hb.cell (p := ⟨P, k, none⟩) (lt_of_cell (hP k hlt).1)).trans (hP k hlt).1
        have z0 := (hb.cell (p := ⟨X, 0, none⟩) (lt_of_cell y0)).trans y0
        have z2 := (hb.cell (p := ⟨T, 2, none⟩) (lt_of_cell y2)).trans y2
        have zd := (hb.cell (p := ⟨D, 0, none⟩) (lt_of_cell yd)).trans yd
        obtain ⟨g0, g1, g2⟩ := HFS.out (p k) hp
        have f0 := (hb.cell (p := ⟨FS, p k * 3, none⟩) (lt_of_cell g0)).trans g0
        have f1 := (hb.cell (p := ⟨FS, p k * 3 + 1, none⟩) (lt_of_cell g1)).trans g1
        have f2 := (hb.cell (p := ⟨FS, p k * 3 + 2, none⟩) (lt_of_cell g2)).trans g2
        have vk := (hb.cell (p := ⟨V, k, none⟩) (lt_of_cell (HV.out k hlt))).trans (HV.out k hlt)
        have hVl := lt_of_cell vk
        have hVw := lt_of_cell (HV.out k hlt)
        have hFk := HF.out k hlt
        have hLk := HL.out k hlt
        have HPk : Hid (∀ j, j < N → w.cell? ⟨P, j, none⟩ = some (.int .i64 (p j : Int)) ∧ p j < nf) := hP
        clear hP y0 y3 y2 yd g0 g1 g2
        generalize p k = q at *
        have hbs := hb.size
        obtain ⟨e1, h, x, ev, ep⟩ := hFk
        rw [e1] at f1
        rw [ev] at vk
        have hta := ta2 x
        have hfk : Hid (flat part k ++ part k = flat part (k + 1)) := rfl
        rw [h] at f2
        have r1 := sh63
        have r2 := wr64
        have r3 := wr63
        have r4 : bits .xor .u64 (IntKind.u64.wrap x) (IntKind.u64.wrap 9223372036854775808) = (xr x 9223372036854775808 : Int) := xr_bits x 9223372036854775808 (by decide)
        have hA : ∀ W, w.heap.size ≤ W.heap.size → Own W w.heap.size (.slice a (flat part k).length c) (flat part k) → Calls Yba.prog 12 #[.slice a (flat part k).length c, .int .u64 (xr x 9223372036854775808 : Int), .int .i64 8] W fun e w' => ∃ v', e = .returned v' ∧ Own w' w.heap.size v' (flat part k ++ beN (xr x 9223372036854775808) 8) ∧ Below w.heap.size W w' ∧ Keeps W w' :=
          fun W h1 h2 => appBE w.heap.size (xr x 9223372036854775808) 8 _ (flat part k) (xr_lt x (by decide)) (by omega) (by omega) W h1 h2
        clear h ev e1
        go_wp2
        go_region_held3 (fun w' => w'.cell? ⟨V, k, none⟩ = some (.iface 2 (.int .i64 x)) ∧ w'.cell? ⟨wr.heap.size, 2, none⟩ = some (.int .i64 8)) (first | go_keep | exact ⟨(hb1.cell hVw).trans (by simp [*]), cell_block (hK1 _ _ 33 _ (by decide) (heap_alloc_new wr _))⟩)
          ((go_at_call 12; refine (hA _ ?_ ?_).mono ?_; (simp; omega); (exact HO.out.alloc _); rintro e w1 ⟨v', rfl, hO1, hb1, hK1⟩))
        all_goals
          rw [← ep, hfk.out] at hO1
          obtain ⟨a2, c2, rfl⟩ := hO1.slice
          have HO1 : Hid (Own w1 w.heap.size (.slice a2 (flat part (k + 1)).length c2) (flat part (k + 1))) := hO1
          have hb2 : Hid (Below w.heap.size w w1) := ((hb.alloc hbs _).drew).trans hb1
          clear hO1 hb1 hK1
          go_wp2
          go_roundw
          case rel => exact ⟨k + 1, by omega, by go_num, a2, c2, rfl, HO1.out, hb2.out⟩
          case measure => simp [intOf]; omega
    · obtain rfl : k = N := by omega
      go_wp2
      go_ret
      exact ⟨_, rfl, HO.out, hb⟩
end Go.Proofs.Ybulkatzw
