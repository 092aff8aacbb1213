/-
  (*Index).keyOf, by what key does.
-/
import Derived.Test.YbulkatzwDefs
namespace Go.Proofs.Ybulkatzw
open Go.RowKit Go.Lib
set_option linter.unusedVariables false
set_option linter.unusedSimpArgs false
set_option maxRecDepth 100000

theorem Own.base {w : World} {B B' : Nat} {v : Value} {l : List UInt8} (h : Own w B v l) (hB : B' ≤ B) : Own w B' v l := by
  refine ⟨h.1, ?_⟩
  rcases h.2 with h | ⟨g, cap, cur, e, hg, r⟩
  · exact .inl h
  · exact .inr ⟨g, cap, cur, e, Nat.le_trans hB hg, r⟩

theorem info20' : (Yba.prog.info? 20).map (fun i => (i.size, i.bytes, i.zero)) = some (1, 16, some .nilIface) := by kernel_rfl
theorem info20 : ∃ i, Yba.prog.info? 20 = some i ∧ i.size = 1 ∧ i.bytes = 16 ∧ i.zero = some .nilIface := by
  obtain ⟨i, h1, h2⟩ := Option.map_eq_some_iff.1 info20'
  simp only [Prod.mk.injEq] at h2
  exact ⟨i, h1, h2.1, h2.2.1, h2.2.2⟩
theorem make_any (n : Nat) (hn : n ≤ 1048576) (w : World) :
    ∃ arr : Array Value, arr.size = n ∧ (Instr.makeSlice 28 (.int .i64 (n : Int)) (.int .i64 (n : Int))).run Yba.prog w = .ok (.slice (some ⟨w.heap.size, 0, none⟩) n n) (w.alloc (.cells arr 20)) := by
  obtain ⟨i, hi, hs, hby, hz⟩ := info20
  have h := run_make (P := Yba.prog) w 28 20 i .nilIface Yba.underlying28 hi hz .i64 .i64 (n : Int) (n : Int) (by omega) (by omega) (by rw [hby]; omega) (by omega)
  simp only [Int.toNat_natCast] at h
  exact ⟨_, by rw [size_madeCells, hs, Nat.mul_one], h⟩

set_option maxHeartbeats 800000 in
theorem keyOf (X R VA : Nat) (po : Option Addr) (N pc : Nat) (p : Nat → Nat) (nf : Nat) (ty sz : Nat → Nat) (va : Nat → Value) (L : List UInt8) (w : World)
    (hI : IxOk w X po N pc p nf ty sz) (hR : w.cell? ⟨R, 1, none⟩ = some (.slice (some ⟨VA, 0, none⟩) nf nf)) (hVA : ∀ i, i < nf → w.cell? ⟨VA, i, none⟩ = some (va i)) (h1c : ∀ i, i < nf → ∃ t u, va i = .iface t u)
    (hKey : ∀ W V, Below w.heap.size w W → (∀ j, j < N → W.cell? ⟨V, j, none⟩ = some (va (p j))) → Calls Yba.prog 10 #[.pointer (some ⟨X, 0, none⟩), .slice (some ⟨V, 0, none⟩) N N] W fun e w' => ∃ v', e = .returned v' ∧ Own w' W.heap.size v' L ∧ Below W.heap.size W w') :
    Calls Yba.prog 7 #[.pointer (some ⟨X, 0, none⟩), .pointer (some ⟨R, 0, none⟩)] w fun e w' => ∃ v', e = .returned v' ∧ Own w' w.heap.size v' L ∧ Below w.heap.size w w' := by
  obtain ⟨T, D, FS, x0, x3, t2, d0, fs⟩ := hI.ex
  have hpos : Hid (N = 0 ∨ ∃ P, po = some ⟨P, 0, none⟩ ∧ N ≤ pc ∧ ∀ j, j < N → w.cell? ⟨P, j, none⟩ = some (.int .i64 (p j : Int)) ∧ p j < nf) := hI.pos
  have hsm := hI.small
  obtain ⟨arr, harr, hmk⟩ := make_any N (by omega) w
  have HVA : Hid (∀ i, i < nf → w.cell? ⟨VA, i, none⟩ = some (va i)) := hVA
  have HKey : Hid (∀ W V, Below w.heap.size w W → (∀ j, j < N → W.cell? ⟨V, j, none⟩ = some (va (p j))) → Calls Yba.prog 10 #[.pointer (some ⟨X, 0, none⟩), .slice (some ⟨V, 0, none⟩) N N] W fun e w' => ∃ v', e = .returned v' ∧ Own w' W.heap.size v' L ∧ Below W.heap.size W w') := hKey
  have HX3 : Hid (w.cell? ⟨X, 3, none⟩ = some (.slice po N pc)) := x3
  have HR : Hid (w.cell? ⟨R, 1, none⟩ = some (.slice (some ⟨VA, 0, none⟩) nf nf)) := hR
  have H1 : Hid (∀ i, i < nf → ∃ t u, va i = .iface t u) := h1c
  have hXl := lt_of_cell x3
  have x3' : (w.alloc (.cells arr 20)).cell? ⟨X, 3, none⟩ = some (.slice po N pc) := by rw [World.cell?_alloc_lt _ _ ⟨X, 3, none⟩ hXl]; exact x3
  clear hI hVA hKey fs x0 t2 d0 h1c hR
  go_enter Yba.func7, Yba.ntmps7
  go_wp2
  clear x3 x3' hmk
  go_loopw [6, 7, 19] (fun _ _ v19 wr => ∃ k : Nat, k ≤ N ∧ v19 = .int .i64 k ∧ ∃ arr : Array Value, arr.size = N ∧ wr.heap[w.heap.size]? = some (.cells arr 20 (0, 0)) ∧ (∀ j, j < k → arr[j]? = some (va (p j))) ∧ Below w.heap.size w wr) (fun _ _ v19 _ => N - (intOf v19).toNat)
  case atStart => exact ⟨0, Nat.zero_le _, rfl, arr, harr, heap_alloc_new w _, fun j hj => absurd hj (Nat.not_lt_zero _), (Below.refl _ _).alloc (Nat.le_refl _) _⟩
  case round =>
    obtain ⟨k, hk, rfl, arr', ha, hh, hg, hb⟩ := hrel
    have HG : Hid (∀ j, j < k → arr'[j]? = some (va (p j))) := hg
    have HH : Hid (wr.heap[w.heap.size]? = some (.cells arr' 20 (0, 0))) := hh
    clear hg hh
    by_cases hlt : k < N
    · rcases hpos.out with h0 | ⟨P, rfl, hpc, hP⟩
      · omega
      · have hp := (hP k hlt).2
        have hcP := (hb.cell (p := ⟨P, k, none⟩) (lt_of_cell (hP k hlt).1)).trans (hP k hlt).1
        have r1 := (hb.cell (p := ⟨R, 1, none⟩) (lt_of_cell HR.out)).trans HR.out
        have v1 := (hb.cell (p := ⟨VA, p k, none⟩) (lt_of_cell (HVA.out (p k) hp))).trans (HVA.out (p k) hp)
        obtain ⟨tt, uu, hvu⟩ := H1.out (p k) hp
        have Hvu : Hid (va (p k) = .iface tt uu) := hvu
        rw [hvu] at v1
        have oldc : wr.cell? ⟨w.heap.size, k, none⟩ = some (arr'[k]'(by omega)) := by simp only [World.cell?, HH.out]; exact Array.getElem?_eq_getElem (by omega)
        have oldf : wr.frozen? ⟨w.heap.size, k, none⟩ = false := by simp [World.frozen?, HH.out]
        have HP : Hid (∀ j, j < N → w.cell? ⟨P, j, none⟩ = some (.int .i64 (p j : Int)) ∧ p j < nf) := hP
        clear hP hvu
        generalize arr'[k]'(by omega) = old at oldc
        go_wp2
        go_roundw
        case rel =>
          refine ⟨k + 1, by omega, by go_num, arr'.setIfInBounds k (.iface tt uu), by simpa using ha, heap_setCell_same wr w.heap.size k arr' 20 _ HH.out, fun j hj => ?_, hb.trans ⟨rfl, rfl, rfl, by simp [World.setCell], fun i hi => Below.heap_setCell _ _ _ _ (Nat.ne_of_lt hi)⟩⟩
          by_cases e : j = k
          · subst e
            rw [Hvu.out]
            simp [ha, hlt]
          · rw [Array.getElem?_setIfInBounds_ne (by omega)]
            exact HG.out j (by omega)
        case measure => simp [intOf]; omega
    · obtain rfl : k = N := by omega
      go_wp2_with fail
      refine (HKey.out _ w.heap.size hb (fun j hj => ?_)).mono ?_
      · simp only [World.cell?, HH.out]; exact HG.out j hj
      rintro e w1 ⟨v', rfl, hO, hb1⟩
      have hO' : Own w1 w.heap.size v' L := hO.base hb.size
      obtain ⟨a2, c2, rfl⟩ := hO'.slice
      have HO : Hid (Own w1 w.heap.size (.slice a2 L.length c2) L) := hO'
      have hb2 : Hid (Below w.heap.size w w1) := hb.trans (hb1.mono hb.size)
      clear hO hO' hb1
      go_wp2
      go_ret
      exact ⟨_, rfl, HO.out, hb2.out⟩
end Go.Proofs.Ybulkatzw
