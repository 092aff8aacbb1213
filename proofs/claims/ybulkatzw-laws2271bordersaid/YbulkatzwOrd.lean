/-
  LawS2271BOrder: the walk.
-/
import Derived.Test.YbulkatzwKeyI
import Derived.Test.YbulkatzwKeyOf
import Derived.Test.YbulkatzwCmp
namespace Go.Proofs.Ybulkatzw
open Go.RowKit Go.Lib
set_option linter.unusedVariables false
set_option linter.unusedSimpArgs false
set_option maxRecDepth 100000

theorem IxOk.later {w W : World} {X : Nat} {po : Option Addr} {N pc : Nat} {p : Nat → Nat} {nf : Nat} {ty sz : Nat → Nat} (h : IxOk w X po N pc p nf ty sz) (hb : Below w.heap.size w W) : IxOk W X po N pc p nf ty sz := by
  obtain ⟨⟨T, D, FS, x0, x3, t2, d0, fs⟩, hp, hs⟩ := h
  have go : ∀ {b j : Nat} {v : Value}, w.cell? ⟨b, j, none⟩ = some v → W.cell? ⟨b, j, none⟩ = some v := fun h => (hb.cell (lt_of_cell h)).trans h
  refine ⟨⟨T, D, FS, go x0, go x3, go t2, go d0, fun i hi => ⟨go (fs i hi).1, go (fs i hi).2.1, go (fs i hi).2.2⟩⟩, ?_, hs⟩
  rcases hp with h | ⟨P, e, hn, hc⟩
  · exact .inl h
  · exact .inr ⟨P, e, hn, fun j hj => ⟨go (hc j hj).1, (hc j hj).2⟩⟩

theorem ixOne {w : World} {X T D FS P : Nat} (x0 : w.cell? ⟨X, 0, none⟩ = some (.pointer (some ⟨T, 0, none⟩))) (x3 : w.cell? ⟨X, 3, none⟩ = some (.slice (some ⟨P, 0, none⟩) 1 1)) (t2 : w.cell? ⟨T, 2, none⟩ = some (.pointer (some ⟨D, 0, none⟩)))
    (d0 : w.cell? ⟨D, 0, none⟩ = some (.slice (some ⟨FS, 0, none⟩) 1 1)) (f0 : w.cell? ⟨FS, 0, none⟩ = some (.string ⟨#[]⟩)) (f1 : w.cell? ⟨FS, 1, none⟩ = some (.int .u8 1)) (f2 : w.cell? ⟨FS, 2, none⟩ = some (.int .i64 8)) (p0 : w.cell? ⟨P, 0, none⟩ = some (.int .i64 0)) :
    IxOk w X (some ⟨P, 0, none⟩) 1 1 (fun _ => 0) 1 (fun _ => 1) (fun _ => 8) := by
  refine ⟨⟨T, D, FS, x0, x3, t2, d0, fun i hi => ?_⟩, .inr ⟨P, rfl, Nat.le_refl _, fun j hj => ?_⟩, by decide⟩
  · obtain rfl : i = 0 := by omega
    exact ⟨f0, f1, f2⟩
  · obtain rfl : j = 0 := by omega
    exact ⟨p0, by decide⟩

theorem keyOne {w : World} {X R VA P : Nat} {x : Int} (hI : IxOk w X (some ⟨P, 0, none⟩) 1 1 (fun _ => 0) 1 (fun _ => 1) (fun _ => 8)) (r1 : w.cell? ⟨R, 1, none⟩ = some (.slice (some ⟨VA, 0, none⟩) 1 1)) (v0 : w.cell? ⟨VA, 0, none⟩ = some (.iface 2 (.int .i64 x))) :
    Calls Yba.prog 7 #[.pointer (some ⟨X, 0, none⟩), .pointer (some ⟨R, 0, none⟩)] w fun e w' => ∃ v', e = .returned v' ∧ Own w' w.heap.size v' (beN (xr x 9223372036854775808) 8) ∧ Below w.heap.size w w' := by
  refine keyOf X R VA _ 1 1 (fun _ => 0) 1 (fun _ => 1) (fun _ => 8) (fun _ => .iface 2 (.int .i64 x)) _ w hI r1 (fun i hi => ?_) (fun _ _ => ⟨_, _, rfl⟩) (fun W V hb hV => ?_)
  · obtain rfl : i = 0 := by omega
    exact v0
  · have := keyI X V _ 1 1 (fun _ => 0) 1 (fun _ => 1) (fun _ => 8) (fun _ => .iface 2 (.int .i64 x)) (fun _ => beN (xr x 9223372036854775808) 8) W (hI.later hb) hV (fun j hj => ⟨rfl, rfl, x, rfl, rfl⟩) (fun j hj => by rw [beN_length]; decide)
    simpa only [flat, List.nil_append] using this

theorem Own.later {w w' : World} {B : Nat} {v : Value} {l : List UInt8} (h : Own w B v l) (hb : Below w.heap.size w w') : Own w' B v l := by
  refine ⟨h.1, ?_⟩
  rcases h.2 with h | ⟨g, cap, cur, e, hg, hh, r⟩
  · exact .inl h
  · exact .inr ⟨g, cap, cur, e, hg, (hb.block g (Array.getElem?_eq_some_iff.1 hh).1).trans hh, r⟩

theorem Own.cells {w : World} {B c : Nat} {a : Option Addr} {l : List UInt8} {n : Nat} (h : Own w B (.slice a n c) l) : (∀ ad, a = some ad → ∀ j x, l[j]? = some x → w.cell? (ad.add j) = some (cellOf x)) ∧ (a = none → l = []) ∧ n = l.length := by
  have hl := h.1
  rcases h.2 with ⟨e, h0⟩ | ⟨g, cap, cur, e, _, hh, hn, hc, hs, ht⟩
  · cases e
    exact ⟨fun ad e => (by cases e), fun _ => List.eq_nil_of_length_eq_zero h0, h0.symm⟩
  · cases e
    refine ⟨fun ad e j x hj => ?_, fun e => (by cases e), rfl⟩
    cases e
    have hjl : j < l.length := (List.getElem?_eq_some_iff.1 hj).1
    rw [Addr.add_lit, Nat.zero_add]
    have e1 : w.cell? ⟨g, j, none⟩ = cur[j]? := by simp only [World.cell?, hh]; rfl
    have e2 : cur.toList[j]? = (cur.toList.take (l.length * 1))[j]? := by rw [List.getElem?_take, if_pos (by omega)]
    rw [e1, ← Array.getElem?_toList, e2, ht, List.getElem?_map, hj]
    rfl

set_option maxHeartbeats 800000 in
theorem order_walk (x y : Int) (hx1 : -9223372036854775808 ≤ x) (hx2 : x ≤ 9223372036854775807) (hy1 : -9223372036854775808 ≤ y) (hy2 : y ≤ 9223372036854775807) (w : World) :
    Calls Yba.prog 4 #[.int .i64 x, .int .i64 y] w fun e w' => e = .returned (.bool true) ∧ Below w.heap.size w w' := by
  have HC : Hid (compareBytes (beN (xr x 9223372036854775808) 8) (beN (xr y 9223372036854775808) 8) = if x < y then -1 else if y < x then 1 else 0) := by
    show _ = _
    have a1 := xr_top x hx1 hx2
    have a2 := xr_top y hy1 hy2
    have b1 := xr_lt x (c := 9223372036854775808) (by decide)
    have b2 := xr_lt y (c := 9223372036854775808) (by decide)
    rw [cmp_be, show (256 : Nat) ^ 8 = 18446744073709551616 by decide, Nat.mod_eq_of_lt b1, Nat.mod_eq_of_lt b2]
    by_cases h1 : x < y
    · rw [if_pos h1, if_pos (by omega)]
    · rw [if_neg h1, if_neg (by omega)]
      by_cases h2 : y < x
      · rw [if_pos h2, if_pos (by omega)]
      · rw [if_neg h2, if_neg (by omega)]
  go_enter Yba.func4, Yba.ntmps4
  go_wp2_with fail
  have hI : IxOk (((((w.alloc (.cells #[.string ⟨#[]⟩, .int .u8 1, .int .i64 8] 33)).alloc (.cells #[.slice (some ⟨w.heap.size, 0, none⟩) 1 1, .map none, .string ⟨#[]⟩] 40)).alloc
      (.cells #[.pointer none, .string ⟨#[]⟩, .pointer (some ⟨w.heap.size + 1, 0, none⟩), .int .u32 0, .int .u64 0, .int .u64 0, .slice none 0 0] 48)).alloc (.cells #[.int .i64 0] 3)).alloc
      (.cells #[.pointer (some ⟨w.heap.size + 1 + 1, 0, none⟩), .string ⟨#[]⟩, .bool false, .slice (some ⟨w.heap.size + 1 + 1 + 1, 0, none⟩) 1 1, .int .i64 0, .int .u32 0, .bool false] 50)) (w.heap.size + 1 + 1 + 1 + 1) (some ⟨w.heap.size + 1 + 1 + 1, 0, none⟩) 1 1 (fun _ => 0) 1 (fun _ => 1) (fun _ => 8) := by
    refine ixOne (T := w.heap.size + 1 + 1) (D := w.heap.size + 1) (FS := w.heap.size) ?_ ?_ ?_ ?_ ?_ ?_ ?_ ?_
    iterate 8 (· simp [go_sem])
  generalize hW : (((((w.alloc (.cells #[.string ⟨#[]⟩, .int .u8 1, .int .i64 8] 33)).alloc (.cells #[.slice (some ⟨w.heap.size, 0, none⟩) 1 1, .map none, .string ⟨#[]⟩] 40)).alloc
      (.cells #[.pointer none, .string ⟨#[]⟩, .pointer (some ⟨w.heap.size + 1, 0, none⟩), .int .u32 0, .int .u64 0, .int .u64 0, .slice none 0 0] 48)).alloc (.cells #[.int .i64 0] 3)).alloc
      (.cells #[.pointer (some ⟨w.heap.size + 1 + 1, 0, none⟩), .string ⟨#[]⟩, .bool false, .slice (some ⟨w.heap.size + 1 + 1 + 1, 0, none⟩) 1 1, .int .i64 0, .int .u32 0, .bool false] 50)) = W at hI ⊢
  have hsz : W.heap.size = w.heap.size + 1 + 1 + 1 + 1 + 1 := by rw [← hW]; simp
  have hBW : Below w.heap.size w W := by
    rw [← hW]
    exact (((((Below.refl _ _).alloc (by simp) _).alloc (by simp <;> omega) _).alloc (by simp <;> omega) _).alloc (by simp <;> omega) _).alloc (by simp <;> omega) _
  have hWw := hBW.size
  clear hW
  rw [← hsz]
  have HI : Hid (IxOk W (w.heap.size + 1 + 1 + 1 + 1) (some ⟨w.heap.size + 1 + 1 + 1, 0, none⟩) 1 1 (fun _ => 0) 1 (fun _ => 1) (fun _ => 8)) := hI
  clear hI
  generalize w.heap.size + 1 + 1 + 1 + 1 = X at *
  generalize w.heap.size + 1 + 1 + 1 = P at *
  refine (keyOne (x := x) (P := P) (VA := W.heap.size) (HI.out.later (((Below.refl _ _).alloc (Nat.le_refl _) _).alloc (by simp) _)) ?_ ?_).mono ?_
  · simp [go_sem]
  · simp [go_sem]
  rintro e w1 ⟨v', rfl, hO, hb⟩
  obtain ⟨a1, c1, hv⟩ := hO.slice
  rw [beN_length] at hv
  subst hv
  have hb1 : Below W.heap.size W w1 := (((Below.refl _ _).alloc (Nat.le_refl _) _).alloc (by simp) _).trans (hb.mono (by simp; omega))
  have HO : Hid (Own w1 0 (.slice a1 8 c1) (beN (xr x 9223372036854775808) 8)) := hO.base (Nat.zero_le _)
  clear hO hb
  go_wp2_with fail
  refine (keyOne (x := y) (P := P) (VA := w1.heap.size) ((HI.out.later hb1).later (((Below.refl _ _).alloc (Nat.le_refl _) _).alloc (by simp) _)) ?_ ?_).mono ?_
  · simp [go_sem]
  · simp [go_sem]
  rintro e w2 ⟨v'', rfl, hO2, hb2⟩
  obtain ⟨a2, c2, hv2⟩ := hO2.slice
  rw [beN_length] at hv2
  subst hv2
  have hb3 : Below w1.heap.size w1 w2 := (((Below.refl _ _).alloc (Nat.le_refl _) _).alloc (by simp) _).trans (hb2.mono (by simp; omega))
  obtain ⟨k1, k2, k3⟩ := hO2.cells
  obtain ⟨m1, m2, m3⟩ := (HO.out.later hb3).cells
  have hBz : Hid (Below w.heap.size w w2) := hBW.trans ((hb1.mono hWw).trans (hb3.mono (Nat.le_trans hWw hb1.size)))
  have hcmp := cmpC a1 a2 c1 c2 _ _ w2 m1 k1 m2 k2
  rw [beN_length, beN_length, HC.out] at hcmp
  clear hO2 hb2 hb3 k1 k2 k3 m1 m2 m3 HO
  by_cases h1 : x < y
  · rw [if_pos h1] at hcmp
    go_wp2_with fail
    refine hcmp.mono ?_
    rintro e w3 ⟨rfl, hw⟩
    subst w3
    clear hcmp
    go_wp2
    go_ret
    exact ⟨rfl, hBz.out⟩
  · rw [if_neg h1] at hcmp
    by_cases h2 : y < x
    · rw [if_pos h2] at hcmp
      go_wp2_with fail
      refine hcmp.mono ?_
      rintro e w3 ⟨rfl, hw⟩
      subst w3
      clear hcmp
      go_wp2
      go_ret
      exact ⟨rfl, hBz.out⟩
    · rw [if_neg h2] at hcmp
      go_wp2_with fail
      refine hcmp.mono ?_
      rintro e w3 ⟨rfl, hw⟩
      subst w3
      clear hcmp
      go_wp2
      go_ret
      exact ⟨rfl, hBz.out⟩
end Go.Proofs.Ybulkatzw
