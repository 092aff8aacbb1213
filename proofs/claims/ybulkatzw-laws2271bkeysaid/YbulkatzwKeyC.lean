/-
  (*Index).key.
-/
import Derived.Test.YbulkatzwDefs
import Derived.Test.YbulkatzwZeros
namespace Go.Proofs.Ybulkatzw
open Go.RowKit Go.Lib
set_option linter.unusedVariables false
set_option linter.unusedSimpArgs false
set_option maxRecDepth 100000

theorem strOf_length (s : ByteArray) : (strOf s).length = s.size := by simp [strOf]
theorem own_app {w : World} {B : Nat} {v : Value} {l m : List UInt8} {n : Nat} (hn : n = l.length + m.length) (h : w.ownsRow B 5 1 v n (l.map cellOf ++ m.map cellOf)) : Own w B v (l ++ m) := by
  subst hn
  unfold Own
  rw [List.length_append, List.map_append]
  exact h
theorem str_map (s : ByteArray) : strCells s = (strOf s).map cellOf := rfl
theorem zs_map (m : Nat) : zs m = (List.replicate m (0 : UInt8)).map cellOf := by simp [zs, cellOf]
theorem lt_cell {w : World} {p : Addr} {v : Value} (h : w.cell? p = some v) : p.block < w.heap.size := by
  unfold World.cell? at h
  split at h
  · rename_i hb; exact (Array.getElem?_eq_some_iff.1 hb).1
  · cases h

set_option maxHeartbeats 800000 in
theorem keyC (X V : Nat) (po : Option Addr) (N pc : Nat) (p : Nat → Nat) (nf : Nat) (ty sz : Nat → Nat) (val : Nat → Value) (part : Nat → List UInt8) (w : World)
    (hI : IxOk w X po N pc p nf ty sz) (hV : ∀ j, j < N → w.cell? ⟨V, j, none⟩ = some (val j)) (hF : ∀ j, j < N → FieldOk w (ty (p j)) (sz (p j)) (val j) (part j)) (hL : ∀ j, j < N → (part j).length ≤ 2048) :
    Calls Yba.prog 10 #[.pointer (some ⟨X, 0, none⟩), .slice (some ⟨V, 0, none⟩) N N] w fun e w' => ∃ v', e = .returned v' ∧ Own w' w.heap.size v' (flat part N) ∧ Below w.heap.size w w' := by
  obtain ⟨i5, hi5, hs5, hby5, hz5⟩ := info5
  obtain ⟨T, D, FS, x0, x3, t2, d0, fs⟩ := hI.ex
  have hpos : Hid (N = 0 ∨ ∃ P, po = some ⟨P, 0, none⟩ ∧ N ≤ pc ∧ ∀ j, j < N → w.cell? ⟨P, j, none⟩ = some (.int .i64 (p j : Int)) ∧ p j < nf) := hI.pos
  have hsm := hI.small
  have HV : Hid (∀ j, j < N → w.cell? ⟨V, j, none⟩ = some (val j)) := hV
  have HF : Hid (∀ j, j < N → FieldOk w (ty (p j)) (sz (p j)) (val j) (part j)) := hF
  have HL : Hid (∀ j, j < N → (part j).length ≤ 2048) := hL
  have HFS : Hid (∀ i, i < nf → w.cell? ⟨FS, i * 3, none⟩ = some (.string ⟨#[]⟩) ∧ w.cell? ⟨FS, i * 3 + 1, none⟩ = some (.int .u8 (ty i : Int)) ∧ w.cell? ⟨FS, i * 3 + 2, none⟩ = some (.int .i64 (sz i : Int))) := fs
  have HX : Hid (w.cell? ⟨X, 0, none⟩ = some (.pointer (some ⟨T, 0, none⟩)) ∧ w.cell? ⟨X, 3, none⟩ = some (.slice po N pc) ∧ w.cell? ⟨T, 2, none⟩ = some (.pointer (some ⟨D, 0, none⟩)) ∧ w.cell? ⟨D, 0, none⟩ = some (.slice (some ⟨FS, 0, none⟩) nf nf)) := ⟨x0, x3, t2, d0⟩
  clear hI hV hF hL fs x0 t2 d0
  go_enter Yba.func10, Yba.ntmps10
  go_wp2
  clear x3
  go_loopw [5, 6, 7, 8, 9, 15] (fun v5 _ _ _ _ v15 wr => ∃ k : Nat, k ≤ N ∧ v15 = .int .i64 k ∧ ∃ a c, v5 = .slice a (flat part k).length c ∧ Own wr w.heap.size (.slice a (flat part k).length c) (flat part k) ∧ Below w.heap.size w wr) (fun _ _ _ _ _ v15 _ => N - (intOf v15).toNat)
  case atStart => exact ⟨0, Nat.zero_le _, rfl, none, 0, rfl, Own.nil _ _, Below.refl _ _⟩
  case round =>
    obtain ⟨k, hk, rfl, a, c, rfl, hO, hb⟩ := hrel
    have hfl := flat_le HL.out k hk
    have HO : Hid (Own wr w.heap.size (.slice a (flat part k).length c) (flat part k)) := hO
    clear hO
    by_cases hlt : k < N
    · rcases hpos.out with h0 | ⟨P, rfl, hpc, hP⟩
      · omega
      · obtain ⟨y0, y3, y2, yd⟩ := HX.out
        have hp := (hP k hlt).2
        have hcP := (hb.cell (p := ⟨P, k, none⟩) (lt_of_cell (hP k hlt).1)).trans (hP k hlt).1
        have z0 := (hb.cell (p := ⟨X, 0, none⟩) (lt_of_cell y0)).trans y0
        have z2 := (hb.cell (p := ⟨T, 2, none⟩) (lt_of_cell y2)).trans y2
        have zd := (hb.cell (p := ⟨D, 0, none⟩) (lt_of_cell yd)).trans yd
        obtain ⟨g0, g1, g2⟩ := HFS.out (p k) hp
        have f0 := (hb.cell (p := ⟨FS, p k * 3, none⟩) (lt_of_cell g0)).trans g0
        have f1 := (hb.cell (p := ⟨FS, p k * 3 + 1, none⟩) (lt_of_cell g1)).trans g1
        have f2 := (hb.cell (p := ⟨FS, p k * 3 + 2, none⟩) (lt_of_cell g2)).trans g2
        have vk := (hb.cell (p := ⟨V, k, none⟩) (lt_of_cell (HV.out k hlt))).trans (HV.out k hlt)
        have hVl := lt_of_cell vk
        have hVw := lt_of_cell (HV.out k hlt)
        have hFk := HF.out k hlt
        have hLk := HL.out k hlt
        have HPk : Hid (∀ j, j < N → w.cell? ⟨P, j, none⟩ = some (.int .i64 (p j : Int)) ∧ p j < nf) := hP
        clear hP y0 y3 y2 yd g0 g1 g2
        generalize p k = q at *
        have hbs := hb.size
        rcases hFk with ⟨e1, x, cc, hz, ev, ep⟩ | hFk
        · rw [e1] at f1
          rw [ev] at vk
          have hta := ta2 x
          have hfk : Hid (flat part k ++ part k = flat part (k + 1)) := rfl
          rcases hz with ⟨h, rfl⟩ | ⟨h, rfl⟩ | ⟨h, rfl⟩ | ⟨h, rfl⟩
          · rw [h] at f2 ep
            have r1 := sh7
            have r2 := wr8
            have r3 := wr7
            have r4 : bits .xor .u64 (IntKind.u64.wrap x) (IntKind.u64.wrap 128) = (xr x 128 : Int) := xr_bits x 128 (by decide)
            have hA : ∀ W, w.heap.size ≤ W.heap.size → Own W w.heap.size (.slice a (flat part k).length c) (flat part k) → Calls Yba.prog 12 #[.slice a (flat part k).length c, .int .u64 (xr x 128 : Int), .int .i64 1] W fun e w' => ∃ v', e = .returned v' ∧ Own w' w.heap.size v' (flat part k ++ beN (xr x 128) 1) ∧ Below w.heap.size W w' ∧ Keeps W w' :=
              fun W h1 h2 => appBE w.heap.size (xr x 128) 1 _ (flat part k) (xr_lt x (by decide)) (by omega) (by omega) W h1 h2
            clear h ev e1
            go_wp2
            go_region_held3 (fun w' => w'.cell? ⟨V, k, none⟩ = some (.iface 2 (.int .i64 x)) ∧ w'.cell? ⟨wr.heap.size, 2, none⟩ = some (.int .i64 1)) (first | go_keep | exact ⟨(hb1.cell hVw).trans (by simp [*]), cell_block (hK1 _ _ 33 _ (by decide) (heap_alloc_new wr _))⟩)
              ((go_at_call 12; refine (hA _ ?_ ?_).mono ?_; (simp; omega); (exact HO.out.alloc _); rintro e w1 ⟨v', rfl, hO1, hb1, hK1⟩))
            all_goals
              rw [← ep, hfk.out] at hO1
              obtain ⟨a2, c2, rfl⟩ := hO1.slice
              have HO1 : Hid (Own w1 w.heap.size (.slice a2 (flat part (k + 1)).length c2) (flat part (k + 1))) := hO1
              have hb2 : Hid (Below w.heap.size w w1) := ((hb.alloc hbs _).drew).trans hb1
              clear hO1 hb1 hK1
              go_wp2
              go_roundw
              case rel => exact ⟨k + 1, by omega, by go_num, a2, c2, rfl, HO1.out, hb2.out⟩
              case measure => simp [intOf]; omega
          · rw [h] at f2 ep
            have r1 := sh15
            have r2 := wr16
            have r3 := wr15
            have r4 : bits .xor .u64 (IntKind.u64.wrap x) (IntKind.u64.wrap 32768) = (xr x 32768 : Int) := xr_bits x 32768 (by decide)
            have hA : ∀ W, w.heap.size ≤ W.heap.size → Own W w.heap.size (.slice a (flat part k).length c) (flat part k) → Calls Yba.prog 12 #[.slice a (flat part k).length c, .int .u64 (xr x 32768 : Int), .int .i64 2] W fun e w' => ∃ v', e = .returned v' ∧ Own w' w.heap.size v' (flat part k ++ beN (xr x 32768) 2) ∧ Below w.heap.size W w' ∧ Keeps W w' :=
              fun W h1 h2 => appBE w.heap.size (xr x 32768) 2 _ (flat part k) (xr_lt x (by decide)) (by omega) (by omega) W h1 h2
            clear h ev e1
            go_wp2
            go_region_held3 (fun w' => w'.cell? ⟨V, k, none⟩ = some (.iface 2 (.int .i64 x)) ∧ w'.cell? ⟨wr.heap.size, 2, none⟩ = some (.int .i64 2)) (first | go_keep | exact ⟨(hb1.cell hVw).trans (by simp [*]), cell_block (hK1 _ _ 33 _ (by decide) (heap_alloc_new wr _))⟩)
              ((go_at_call 12; refine (hA _ ?_ ?_).mono ?_; (simp; omega); (exact HO.out.alloc _); rintro e w1 ⟨v', rfl, hO1, hb1, hK1⟩))
            all_goals
              rw [← ep, hfk.out] at hO1
              obtain ⟨a2, c2, rfl⟩ := hO1.slice
              have HO1 : Hid (Own w1 w.heap.size (.slice a2 (flat part (k + 1)).length c2) (flat part (k + 1))) := hO1
              have hb2 : Hid (Below w.heap.size w w1) := ((hb.alloc hbs _).drew).trans hb1
              clear hO1 hb1 hK1
              go_wp2
              go_roundw
              case rel => exact ⟨k + 1, by omega, by go_num, a2, c2, rfl, HO1.out, hb2.out⟩
              case measure => simp [intOf]; omega
          · rw [h] at f2 ep
            have r1 := sh31
            have r2 := wr32
            have r3 := wr31
            have r4 : bits .xor .u64 (IntKind.u64.wrap x) (IntKind.u64.wrap 2147483648) = (xr x 2147483648 : Int) := xr_bits x 2147483648 (by decide)
            have hA : ∀ W, w.heap.size ≤ W.heap.size → Own W w.heap.size (.slice a (flat part k).length c) (flat part k) → Calls Yba.prog 12 #[.slice a (flat part k).length c, .int .u64 (xr x 2147483648 : Int), .int .i64 4] W fun e w' => ∃ v', e = .returned v' ∧ Own w' w.heap.size v' (flat part k ++ beN (xr x 2147483648) 4) ∧ Below w.heap.size W w' ∧ Keeps W w' :=
              fun W h1 h2 => appBE w.heap.size (xr x 2147483648) 4 _ (flat part k) (xr_lt x (by decide)) (by omega) (by omega) W h1 h2
            clear h ev e1
            go_wp2
            go_region_held3 (fun w' => w'.cell? ⟨V, k, none⟩ = some (.iface 2 (.int .i64 x)) ∧ w'.cell? ⟨wr.heap.size, 2, none⟩ = some (.int .i64 4)) (first | go_keep | exact ⟨(hb1.cell hVw).trans (by simp [*]), cell_block (hK1 _ _ 33 _ (by decide) (heap_alloc_new wr _))⟩)
              ((go_at_call 12; refine (hA _ ?_ ?_).mono ?_; (simp; omega); (exact HO.out.alloc _); rintro e w1 ⟨v', rfl, hO1, hb1, hK1⟩))
            all_goals
              rw [← ep, hfk.out] at hO1
              obtain ⟨a2, c2, rfl⟩ := hO1.slice
              have HO1 : Hid (Own w1 w.heap.size (.slice a2 (flat part (k + 1)).length c2) (flat part (k + 1))) := hO1
              have hb2 : Hid (Below w.heap.size w w1) := ((hb.alloc hbs _).drew).trans hb1
              clear hO1 hb1 hK1
              go_wp2
              go_roundw
              case rel => exact ⟨k + 1, by omega, by go_num, a2, c2, rfl, HO1.out, hb2.out⟩
              case measure => simp [intOf]; omega
          · rw [h] at f2 ep
            have r1 := sh63
            have r2 := wr64
            have r3 := wr63
            have r4 : bits .xor .u64 (IntKind.u64.wrap x) (IntKind.u64.wrap 9223372036854775808) = (xr x 9223372036854775808 : Int) := xr_bits x 9223372036854775808 (by decide)
            have hA : ∀ W, w.heap.size ≤ W.heap.size → Own W w.heap.size (.slice a (flat part k).length c) (flat part k) → Calls Yba.prog 12 #[.slice a (flat part k).length c, .int .u64 (xr x 9223372036854775808 : Int), .int .i64 8] W fun e w' => ∃ v', e = .returned v' ∧ Own w' w.heap.size v' (flat part k ++ beN (xr x 9223372036854775808) 8) ∧ Below w.heap.size W w' ∧ Keeps W w' :=
              fun W h1 h2 => appBE w.heap.size (xr x 9223372036854775808) 8 _ (flat part k) (xr_lt x (by decide)) (by omega) (by omega) W h1 h2
            clear h ev e1
            go_wp2
            go_region_held3 (fun w' => w'.cell? ⟨V, k, none⟩ = some (.iface 2 (.int .i64 x)) ∧ w'.cell? ⟨wr.heap.size, 2, none⟩ = some (.int .i64 8)) (first | go_keep | exact ⟨(hb1.cell hVw).trans (by simp [*]), cell_block (hK1 _ _ 33 _ (by decide) (heap_alloc_new wr _))⟩)
              ((go_at_call 12; refine (hA _ ?_ ?_).mono ?_; (simp; omega); (exact HO.out.alloc _); rintro e w1 ⟨v', rfl, hO1, hb1, hK1⟩))
            all_goals
              rw [← ep, hfk.out] at hO1
              obtain ⟨a2, c2, rfl⟩ := hO1.slice
              have HO1 : Hid (Own w1 w.heap.size (.slice a2 (flat part (k + 1)).length c2) (flat part (k + 1))) := hO1
              have hb2 : Hid (Below w.heap.size w w1) := ((hb.alloc hbs _).drew).trans hb1
              clear hO1 hb1 hK1
              go_wp2
              go_roundw
              case rel => exact ⟨k + 1, by omega, by go_num, a2, c2, rfl, HO1.out, hb2.out⟩
              case measure => simp [intOf]; omega
        · rcases hFk with ⟨e1, hz, u, hu, ev, ep⟩ | hFk
          · rw [e1] at f1
            rw [ev] at vk
            have hta := ta24 (u : Int)
            have hfk : Hid (flat part k ++ part k = flat part (k + 1)) := rfl
            have hA : ∀ W, w.heap.size ≤ W.heap.size → Own W w.heap.size (.slice a (flat part k).length c) (flat part k) → Calls Yba.prog 12 #[.slice a (flat part k).length c, .int .u64 (u : Int), .int .i64 (sz q : Int)] W fun e w' => ∃ v', e = .returned v' ∧ Own w' w.heap.size v' (flat part k ++ beN u (sz q)) ∧ Below w.heap.size W w' ∧ Keeps W w' :=
              fun W h1 h2 => appBE w.heap.size u (sz q) _ (flat part k) hu hz (by omega) W h1 h2
            clear ev e1
            go_wp2
            go_region_held3 (fun w' => w'.cell? ⟨V, k, none⟩ = some (.iface 24 (.int .u64 (u : Int))) ∧ w'.cell? ⟨wr.heap.size, 2, none⟩ = some (.int .i64 (sz q : Int))) (first | go_keep | exact ⟨(hb1.cell hVw).trans (by simp [*]), cell_block (hK1 _ _ 33 _ (by decide) (heap_alloc_new wr _))⟩)
              ((go_at_call 12; refine (hA _ ?_ ?_).mono ?_; (simp; omega); (exact HO.out.alloc _); rintro e w1 ⟨v', rfl, hO1, hb1, hK1⟩))
            all_goals
              rw [← ep, hfk.out] at hO1
              obtain ⟨a2, c2, rfl⟩ := hO1.slice
              have HO1 : Hid (Own w1 w.heap.size (.slice a2 (flat part (k + 1)).length c2) (flat part (k + 1))) := hO1
              have hb2 : Hid (Below w.heap.size w w1) := ((hb.alloc hbs _).drew).trans hb1
              clear hO1 hb1 hK1
              go_wp2
              go_roundw
              case rel => exact ⟨k + 1, by omega, by go_num, a2, c2, rfl, HO1.out, hb2.out⟩
              case measure => simp [intOf]; omega
          · rcases hFk with ⟨e1, s, ev, ep⟩ | hFk
            · rw [e1] at f1
              rw [ev] at vk
              have hta := ta9 s
              have hsl : Hid ((part k).length = s.size) := by show _ = _; rw [ep, strOf_length]
              have hss : s.size ≤ 2048 := by have := hsl.out; omega
              have Hep : Hid (part k = strOf s) := ep
              clear ev e1 ep
              go_wp2_with (at_builtin; refine wpList_append_own_string _ rfl (.tmp 80) (.tmp 85) 23 9 rfl w.heap.size 5 i5 Yba.underlying23 Yba.underlying9 hi5 hz5 hs5 hby5 (.slice a (flat part k).length c) (flat part k).length ((flat part k).map cellOf) rfl (HO.out.alloc _) s rfl ?c1 ?c2 ?c3 ?_)
              case c1 => unfold maxLen; omega
              case c2 => omega
              case c3 => simp; omega
              intro v' w1 hown hgr _
              have hO1 : Own w1 w.heap.size v' (flat part (k + 1)) := by
                show Own _ _ _ (flat part k ++ part k)
                rw [str_map, ← Hep.out] at hown
                exact own_app (by rw [hsl.out]) hown
              obtain ⟨a2, c2, rfl⟩ := hO1.slice
              have HO1 : Hid (Own w1 w.heap.size (.slice a2 (flat part (k + 1)).length c2) (flat part (k + 1))) := hO1
              have hb2 : Hid (Below w.heap.size w w1) := (hb.alloc hbs _).trans (grown_below hgr (fun k hk => HO.out.ge k hk) (by simp; omega))
              clear hO1 hown hgr
              go_wp2
              go_roundw
              case rel => exact ⟨k + 1, by omega, by go_num, a2, c2, rfl, HO1.out, hb2.out⟩
              case measure => simp [intOf]; omega
            · rcases hFk with ⟨e1, s, hs1, hs2, ev, ep⟩ | ⟨e1, ba, bc, ev, hn, hb0⟩
              · rw [e1] at f1
                rw [ev] at vk
                have hta := ta9 s
                have Hep : Hid (part k = strOf s ++ List.replicate (sz q - s.size) 0 ++ beN s.size 2) := ep
                clear ev e1 ep
                go_wp2_with (at_builtin; refine wpList_append_own_string _ rfl (.tmp 94) (.tmp 95) 23 9 rfl w.heap.size 5 i5 Yba.underlying23 Yba.underlying9 hi5 hz5 hs5 hby5 (.slice a (flat part k).length c) (flat part k).length ((flat part k).map cellOf) rfl (HO.out.alloc _) s rfl ?c1 ?c2 ?c3 ?_)
                case c1 => unfold maxLen; omega
                case c2 => omega
                case c3 => simp; omega
                intro v' w1 hown hgr _
                have hO1 : Own w1 w.heap.size v' (flat part k ++ strOf s) := own_app (by rw [strOf_length]) hown
                have hll : Hid ((flat part k ++ strOf s).length = (flat part k).length + s.size) := by show _ = _; rw [List.length_append, strOf_length]
                obtain ⟨a2, c2, rfl⟩ := hO1.slice
                rw [hll.out] at hO1 ⊢
                have HO1 : Hid (Own w1 w.heap.size (.slice a2 ((flat part k).length + s.size) c2) (flat part k ++ strOf s)) := hO1
                have hb1 : Below w.heap.size w w1 := (hb.alloc hbs _).trans (grown_below hgr (fun k hk => HO.out.ge k hk) (by simp; omega))
                have hK1 : Keeps (wr.alloc (.cells #[.string ⟨#[]⟩, .int .u8 5, .int .i64 (sz q : Int)] 33)) w1 := (Keeps.refl _).grown (HO.out.alloc _) hgr
                have hsz1 : w1.cell? ⟨wr.heap.size, 2, none⟩ = some (.int .i64 (sz q : Int)) := cell_block (hK1 _ _ 33 _ (by decide) (heap_alloc_new wr _))
                have HK1 : Hid (Keeps (wr.alloc (.cells #[.string ⟨#[]⟩, .int .u8 5, .int .i64 (sz q : Int)] 33)) w1) := hK1
                have hws := hb1.size
                clear hO1 hown hgr hK1
                go_wp2_with (at_builtin; refine wpList_zeros_own _ rfl (.tmp 97) (.tmp 102) 23 3 rfl w.heap.size 5 i5 Yba.underlying23 Yba.underlying3 hi5 hz5 hs5 hby5 (.slice a2 ((flat part k).length + s.size) c2) ((flat part k).length + s.size) ((flat part k ++ strOf s).map cellOf) rfl (by have := HO1.out; unfold Own at this; rw [hll.out] at this; exact this) (sz q - s.size) ?c1 ?c2 ?c3 ?c4 ?_)
                case c1 => exact congrArg (Value.int .i64) (by omega)
                case c2 => omega
                case c3 => omega
                case c4 => omega
                intro v2 w2 hown hgr
                have hO2 : Own w2 w.heap.size v2 ((flat part k ++ strOf s) ++ List.replicate (sz q - s.size) 0) := own_app (by rw [hll.out, List.length_replicate]) (by rw [List.map_append, List.append_assoc, ← zs_map]; exact hown)
                have hl2 : Hid (((flat part k ++ strOf s) ++ List.replicate (sz q - s.size) (0 : UInt8)).length = (flat part k).length + s.size + (sz q - s.size)) := by show _ = _; rw [List.length_append, hll.out, List.length_replicate]
                obtain ⟨a3, c3, rfl⟩ := hO2.slice
                rw [hl2.out] at hO2 ⊢
                have HO2 : Hid (Own w2 w.heap.size (.slice a3 ((flat part k).length + s.size + (sz q - s.size)) c3) ((flat part k ++ strOf s) ++ List.replicate (sz q - s.size) 0)) := hO2
                have hb3 : Below w.heap.size w w2 := hb1.trans (grown_below hgr (fun k hk => HO1.out.ge k hk) (by omega))
                have hw2 := hb3.size
                clear hO2 hown hgr
                go_wp2_with fail
                refine (appBE w.heap.size s.size 2 _ ((flat part k ++ strOf s) ++ List.replicate (sz q - s.size) 0) (by omega) (by omega) (by rw [hl2.out]; omega) w2 (by omega) HO2.out).mono ?_
                rintro e w3 ⟨v3, rfl, hO3, hb4, _⟩
                have hO4 : Own w3 w.heap.size v3 (flat part (k + 1)) := by
                  show Own _ _ _ (flat part k ++ part k)
                  rw [Hep.out]
                  simpa only [List.append_assoc] using hO3
                obtain ⟨a4, c4, rfl⟩ := hO4.slice
                have HO4 : Hid (Own w3 w.heap.size (.slice a4 (flat part (k + 1)).length c4) (flat part (k + 1))) := hO4
                have hb5 : Hid (Below w.heap.size w w3) := hb3.trans hb4
                clear hO4 hO3 hb4
                go_wp2
                go_roundw
                case rel => exact ⟨k + 1, by omega, by go_num, a4, c4, rfl, HO4.out, hb5.out⟩
                case measure => simp [intOf]; omega
              · rw [e1] at f1
                rw [ev] at vk
                have hta := ta23 ba (part k).length bc
                clear ev e1
                cases ba with
                | none =>
                  obtain ⟨h1, h2⟩ := hn rfl
                  have h3 : (part k).length = 0 := by rw [h1]; rfl
                  rw [h3, h2] at vk hta
                  have hfe : Hid (flat part (k + 1) = flat part k) := by show flat part k ++ part k = _; rw [h1, List.append_nil]
                  clear hn hb0 h1 h2 h3
                  go_wp2_with (at_builtin; refine wpList_append_own_none rfl (.tmp 111) (.tmp 116) 23 rfl w.heap.size 5 i5 1 Yba.underlying23 hi5 (.slice a (flat part k).length c) (flat part k).length ((flat part k).map cellOf) rfl (HO.out.alloc _) rfl ?_)
                  go_wp2
                  go_roundw
                  case rel => exact ⟨k + 1, by omega, by go_num, a, c, by rw [hfe.out], by rw [hfe.out]; exact HO.out.alloc _, hb.alloc hbs _⟩
                  case measure => simp [intOf]; omega
                | some ad =>
                  have hb0' := hb0 ad rfl
                  have HB : Hid (∀ j (hj : j < (part k).length), w.cell? (ad.add j) = some (cellOf (part k)[j])) := hb0'
                  clear hn hb0 hb0'
                  go_wp2_with (at_builtin; refine wpList_append_own _ rfl (.tmp 111) (.tmp 116) 23 rfl w.heap.size 5 i5 (.int .u8 0) 1 1 Yba.underlying23 hi5 hz5 hs5 hby5 rfl (by decide) (.slice a (flat part k).length c) (flat part k).length ((flat part k).map cellOf) rfl (HO.out.alloc _) ad (part k).length bc ((part k).map cellOf) rfl (by simp) ?c1 (map_one _) ?c3 ?c4 ?c5 ?_)
                  case c1 =>
                    intro j u hj
                    have hjl : j < (part k).length := by
                      have := (List.getElem?_eq_some_iff.1 hj).1
                      simpa using this
                    have h0 := HB.out j hjl
                    rw [List.getElem?_map, List.getElem?_eq_getElem hjl] at hj
                    cases hj
                    exact ((hb.alloc hbs _).cell (lt_cell h0)).trans h0
                  case c3 => unfold maxLen; omega
                  case c4 => omega
                  case c5 => simp; omega
                  intro v' w1 hown hgr _
                  have hO1 : Own w1 w.heap.size v' (flat part (k + 1)) := own_app rfl hown
                  obtain ⟨a2, c2, rfl⟩ := hO1.slice
                  have HO1 : Hid (Own w1 w.heap.size (.slice a2 (flat part (k + 1)).length c2) (flat part (k + 1))) := hO1
                  have hb2 : Hid (Below w.heap.size w w1) := (hb.alloc hbs _).trans (grown_below hgr (fun k hk => HO.out.ge k hk) (by simp; omega))
                  clear hO1 hown hgr
                  go_wp2
                  go_roundw
                  case rel => exact ⟨k + 1, by omega, by go_num, a2, c2, rfl, HO1.out, hb2.out⟩
                  case measure => simp [intOf]; omega
    · obtain rfl : k = N := by omega
      go_wp2
      go_ret
      exact ⟨_, rfl, HO.out, hb⟩
end Go.Proofs.Ybulkatzw
