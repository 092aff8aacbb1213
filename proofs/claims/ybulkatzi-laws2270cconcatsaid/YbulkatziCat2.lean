/-
  LawS2270CConcat: the walk.
-/
import Derived.Test.YbulkatziCat
namespace Go.Proofs.Ybulkatzi
open Go.RowKit Go.Lib
set_option linter.unusedVariables false
set_option linter.unusedSimpArgs false

theorem cut5 (F T : Nat) : ∃ o : Nat, (0 < T → o = 5) ∧ ∀ w, (Instr.slice 26 (.slice (some ⟨F, 0, none⟩) (5 + T) (5 + T)) (some (.int .i64 5)) none none).run Yba.prog w = .ok (.slice (some ⟨F, o, none⟩) T T) w := by
  obtain ⟨i, hi, hs, hby, hz⟩ := info5
  refine ⟨if T = 0 then 0 else 5, fun h => if_neg (by omega), fun w => ?_⟩
  have he : Yba.prog.elem 26 = 5 := by kernel_rfl
  rw [run_slice_l w 26 (some ⟨F, 0, none⟩) (5 + T) (5 + T) (by rw [he]; exact Yba.underlying26) .i64 5 (by omega) (by omega), he]
  have e : 5 + T - 5 = T := by omega
  by_cases h : T = 0
  · subst h; simp [sizeOf, typeInfo, hi, hs, sliced]
  · have h' : ¬ 5 + T = 5 := by omega
    simp [sizeOf, typeInfo, hi, hs, sliced, h, Addr.add_lit]

theorem body_cells {w : World} {F c o : Nat} {s : Nat → ByteArray} {t : Nat → Int} {n : Nat} (ho : 0 < (bodyB s t n).length → o = 5) (h : Has w F c ((frameB s t n).map cellOf)) :
    ∀ j u, ((bodyB s t n).map cellOf)[j]? = some u → w.cell? (Addr.add ⟨F, o, none⟩ j) = some u := by
  intro j u hu
  have hj : j < (bodyB s t n).length := by have := (List.getElem?_eq_some_iff.1 hu).1; rwa [List.length_map] at this
  obtain rfl := ho (by omega)
  have hr := h.row (5 + j) (by rw [frameB_length, ← bodyB_length s t n]; omega)
  rw [Addr.add_lit, show (5 : Nat) + j = 0 + (5 + j) by omega, hr]
  rw [List.getElem?_map, List.getElem?_eq_getElem hj, Option.map_some] at hu
  rw [← hu]
  have e : (frameB s t n)[5 + j]? = (bodyB s t n)[j]? := by
    unfold frameB be4b
    rw [Nat.add_comm 5 j]
    simp
  rw [List.getElem?_eq_getElem hj, List.getElem?_eq_getElem (by rw [frameB_length, ← bodyB_length s t n]; omega)] at e
  have e' := Option.some.inj e
  simp only [e', cellOf]
theorem map_one (l : List UInt8) : ∀ u ∈ l.map cellOf, u.oneCell' = true := by
  intro u hu
  obtain ⟨_, _, rfl⟩ := List.mem_map.1 hu
  rfl

set_option maxHeartbeats 800000 in
theorem cat_walk (a : Option Addr) (n c : Nat) (s : Nat → ByteArray) (t : Nat → Int) (a' : Option Addr) (m c' : Nat) (s' : Nat → ByteArray) (t' : Nat → Int)
    (hz : ∀ i, (s i).size ≤ maxLen) (hz' : ∀ i, (s' i).size ≤ maxLen) (w : World) (ho : IsStamps w a n c s t) (ho' : IsStamps w a' m c' s' t') (hnil : a = none → n = 0 ∧ c = 0) (hnil' : a' = none → m = 0 ∧ c' = 0) :
    Calls Yba.prog 4 #[.slice a n c, .slice a' m c'] w fun e w' => e = .returned (.bool true) ∧ Below w.heap.size w w' := by
  have HO : Hid (IsStamps w a n c s t) := ho
  have HO' : Hid (IsStamps w a' m c' s' t') := ho'
  have hC := cok a n c s t hz w ho
  have hC' := cok a' m c' s' t' hz' w ho'
  have HN : Hid (a = none → n = 0 ∧ c = 0) := hnil
  have HN' : Hid (a' = none → m = 0 ∧ c' = 0) := hnil'
  obtain ⟨i5, hi5, hs5, hby5, hz5⟩ := info5
  obtain ⟨i25, z25, hi25, hs25, hby25, hz25⟩ := info25
  clear ho ho' hz hz' hnil hnil'
  go_enter Yba.func4, Yba.ntmps4
  go_wp2_with fail
  refine hC.mono ?_
  rintro e w1 ⟨r, rfl, hw, hr⟩
  subst w1
  cases r with
  | false =>
    clear hr hC hC'
    go_wp2
    go_ret
    exact ⟨rfl, Below.refl _ _⟩
  | true =>
    obtain ⟨hn, hs⟩ := hr rfl
    have HS : Hid (∀ i, i < n → (s i).size ≤ 1024) := hs
    clear hs hr hC
    go_wp2_with fail
    refine hC'.mono ?_
    rintro e w1 ⟨r, rfl, hw, hr⟩
    subst w1
    cases r with
    | false =>
      clear hr hC'
      go_wp2
      go_ret
      exact ⟨rfl, Below.refl _ _⟩
    | true =>
      obtain ⟨hm, hs'⟩ := hr rfl
      have HS' : Hid (∀ i, i < m → (s' i).size ≤ 1024) := hs'
      clear hs' hr hC'
      go_wp2_with (at_make; refine wpList_make_own _ rfl (.const (.int .i64 0)) (.tmp 22) 22 rfl 0 25 i25 z25 2 Yba.underlying22 hi25 hz25 hs25 .i64 .i64 ((n : Int) + (m : Int)) (n + m) rfl rfl ?_ ?_ ?_ ?_ ?_)
      · omega
      · rw [hby25]; omega
      · unfold maxLen; omega
      · exact Nat.zero_le _
      intro w1 hown1 hg1
      have hB1 : Below w.heap.size w w1 := grown_below hg1 (fun k e => by cases e) (Nat.le_refl _)
      have Hown1 : Hid (w1.ownsRow 0 25 2 (.slice (some ⟨w.heap.size, 0, none⟩) 0 (n + m)) 0 []) := hown1
      clear hown1 hg1
      generalize hg : w.heap.size = g at *
      go_wp2_with (at_builtin; refine wpList_append_fits_any _ rfl (.tmp 24) (.tmp 25) 22 rfl 0 25 i25 2 Yba.underlying22 hi25 hs25 g 0 (n + m) [] rfl Hown1.out a n c (sc s t n) rfl (sc_length s t n) HN.out ?_ (sc_one s t n) ?_ ?_)
      · exact (HO.out.later (hg ▸ hB1)).news
      · omega
      intro w2 hown2 hg2
      have hB2 : Below g w w2 := hB1.trans (grown_below hg2 (fun k e => by cases e; exact Nat.le_refl _) (by have := hB1.size; omega))
      have Hown2 : Hid (w2.ownsRow 0 25 2 (.slice (some ⟨g, 0, none⟩) n (n + m)) n (sc s t n)) := hown2
      clear hown2 hg2 Hown1 hB1
      go_wp2_with (at_builtin; refine wpList_append_fits_any _ rfl (.tmp 27) (.tmp 28) 22 rfl 0 25 i25 2 Yba.underlying22 hi25 hs25 g n (n + m) (sc s t n) rfl Hown2.out a' m c' (sc s' t' m) rfl (sc_length s' t' m) HN'.out ?_ (sc_one s' t' m) ?_ ?_)
      · exact (HO'.out.later (hg ▸ hB2)).news
      · omega
      intro w3 hown3 hg3
      have hB3 : Below g w w3 := hB2.trans (grown_below hg3 (fun k e => by cases e; exact Nat.le_refl _) (by have := hB2.size; omega))
      rw [← sc_cat s s' t t' n m] at hown3
      have HA : Hid (IsStamps w3 (some ⟨g, 0, none⟩) (n + m) (n + m) (cat n s s') (cat n t t')) := IsStamps.own hown3
      have HSc : Hid (∀ i, i < n + m → (cat n s s' i).size ≤ 1024) := fun i hi => by
        by_cases h : i < n
        · rw [cat_lt h]; exact HS.out i h
        · have := cat_ge (n := n) (f := s) (g := s') (i - n)
          rw [show n + (i - n) = i by omega] at this
          rw [this]
          exact HS'.out (i - n) (by omega)
      clear hown3 hg3 Hown2 hB2
      go_wp2_with fail
      refine (ack (some ⟨g, 0, none⟩) (n + m) (n + m) (cat n s s') (cat n t t') (by omega) HSc.out _ HA.out).mono ?_
      rintro e w4 ⟨F, rfl, hF, hH, hb⟩
      rw [frame_map] at hH
      have hR4 : Hid (Has w4 F (5 + tot (cat n s s') (n + m)) ((frameB (cat n s s') (cat n t t') (n + m)).map cellOf)) := hH
      have hFl := hH.lt
      have hB4 : Below g w w4 := hB3.trans (hb.mono (by have := hB3.size; omega))
      clear hH hb hB3 HA hF
      go_wp2_with fail
      refine (ack a n c s t (by omega) HS.out _ (HO.out.later (hg ▸ hB4))).mono ?_
      rintro e w5 ⟨Fa, rfl, hFa, hHa, hb5⟩
      rw [frame_map] at hHa
      have hRa5 : Hid (Has w5 Fa (5 + tot s n) ((frameB s t n).map cellOf)) := hHa
      have hFal := hHa.lt
      have hB5 : Below g w w5 := hB4.trans (hb5.mono (by have := hB4.size; omega))
      have hR5 : Hid (Has w5 F (5 + tot (cat n s s') (n + m)) ((frameB (cat n s s') (cat n t t') (n + m)).map cellOf)) := hR4.out.of_block (hb5.block F hFl)
      have hFl5 := Nat.lt_of_lt_of_le hFl hb5.size
      clear hHa hb5 hB4 hR4 hFl hFa
      go_wp2_with fail
      refine (ack a' m c' s' t' (by omega) HS'.out _ (HO'.out.later (hg ▸ hB5))).mono ?_
      rintro e w6 ⟨Fb, rfl, hFb, hHb, hb6⟩
      rw [frame_map] at hHb
      have hRb6 : Hid (Has w6 Fb (5 + tot s' m) ((frameB s' t' m).map cellOf)) := hHb
      have hFbl := hHb.lt
      have hB6 : Below g w w6 := hB5.trans (hb6.mono (by have := hB5.size; omega))
      have hR6 : Hid (Has w6 F (5 + tot (cat n s s') (n + m)) ((frameB (cat n s s') (cat n t t') (n + m)).map cellOf)) := hR5.out.of_block (hb6.block F hFl5)
      have hRa6 : Hid (Has w6 Fa (5 + tot s n) ((frameB s t n).map cellOf)) := hRa5.out.of_block (hb6.block Fa hFal)
      have hFl6 := Nat.lt_of_lt_of_le hFl5 hb6.size
      have hFal6 := Nat.lt_of_lt_of_le hFal hb6.size
      have ht1 := tot_le HS.out n (Nat.le_refl _)
      have ht2 := tot_le HS'.out m (Nat.le_refl _)
      have ht3 : Hid (tot (cat n s s') (n + m) = tot s n + tot s' m) := tot_cat s s' n m
      have hB0 : Hid ((bodyB s t n).length = tot s n) := bodyB_length s t n
      have hB0' : Hid ((bodyB s' t' m).length = tot s' m) := bodyB_length s' t' m
      clear hHb hb6 hB5 hR5 hRa5 hFl5 hFal hFb
      generalize tot (cat n s s') (n + m) = T at *
      generalize tot s n = T1 at *
      generalize tot s' m = T2 at *
      have q1 : ¬ (5 + (T : Int)) < 5 := by omega
      have q2 : ¬ (5 + (T1 : Int)) < 5 := by omega
      have q3 : ¬ (5 + (T2 : Int)) < 5 := by omega
      go_wp2_with (at_make; refine wpList_make_own _ rfl (.const (.int .i64 0)) (.tmp 53) 26 rfl 0 5 i5 (.int .u8 0) 1 Yba.underlying26 hi5 hz5 hs5 .i64 .i64 _ (5 + T1 + (5 + T2)) rfl rfl ?_ ?_ ?_ ?_ ?_)
      · omega
      · rw [hby5]; omega
      · unfold maxLen; omega
      · exact Nat.zero_le _
      intro w7 hown7 hg7
      have hB7 : Below w6.heap.size w6 w7 := grown_below hg7 (fun k e => by cases e) (Nat.le_refl _)
      have Hown7 : Hid (w7.ownsRow 0 5 1 (.slice (some ⟨w6.heap.size, 0, none⟩) 0 (5 + T1 + (5 + T2))) 0 []) := hown7
      clear hown7 hg7
      generalize hG : w6.heap.size = G at *
      obtain ⟨oa, hoa, hsa⟩ := cut5 Fa T1
      obtain ⟨ob, hob, hsb⟩ := cut5 Fb T2
      obtain ⟨of, hof, hsf⟩ := cut5 F T
      have hTb : T ≤ 530432 := by have := ht3.out; omega
      have ka : ∀ j u, ((bodyB s t n).map cellOf)[j]? = some u → w7.cell? (Addr.add ⟨Fa, oa, none⟩ j) = some u := by
        refine body_cells (fun h => hoa (by rw [← hB0.out]; exact h)) (hRa6.out.of_block (hB7.block Fa (by omega)))
      go_wp2_with (at_builtin; refine wpList_append_fits_any _ rfl (.tmp 55) (.tmp 57) 26 rfl 0 5 i5 1 Yba.underlying26 hi5 hs5 G 0 (5 + T1 + (5 + T2)) [] rfl Hown7.out (some ⟨Fa, oa, none⟩) T1 T1 ((bodyB s t n).map cellOf) rfl ?_ ?_ ?_ ?_ ?_ ?_)
      · rw [List.length_map, hB0.out, Nat.mul_one]
      · intro h; cases h
      · intro ad had; cases had; exact ka
      · exact map_one _
      · omega
      intro w8 hown8 hg8
      have hB8 : Below G w6 w8 := hB7.trans (grown_below hg8 (fun k e => by cases e; exact Nat.le_refl _) (by have := hB7.size; omega))
      have Hown8 : Hid (w8.ownsRow 0 5 1 (.slice (some ⟨G, 0, none⟩) T1 (5 + T1 + (5 + T2))) T1 ((bodyB s t n).map cellOf)) := hown8
      have kb : ∀ j u, ((bodyB s' t' m).map cellOf)[j]? = some u → w8.cell? (Addr.add ⟨Fb, ob, none⟩ j) = some u := by
        refine body_cells (fun h => hob (by rw [← hB0'.out]; exact h)) (hRb6.out.of_block (hB8.block Fb (by omega)))
      clear hown8 hg8 Hown7 ka hB7
      go_wp2_with (at_builtin; refine wpList_append_fits_any _ rfl (.tmp 59) (.tmp 61) 26 rfl 0 5 i5 1 Yba.underlying26 hi5 hs5 G T1 (5 + T1 + (5 + T2)) ((bodyB s t n).map cellOf) rfl Hown8.out (some ⟨Fb, ob, none⟩) T2 T2 ((bodyB s' t' m).map cellOf) rfl ?_ ?_ ?_ ?_ ?_ ?_)
      · rw [List.length_map, hB0'.out, Nat.mul_one]
      · intro h; cases h
      · intro ad had; cases had; exact kb
      · exact map_one _
      · omega
      intro w9 hown9 hg9
      have hB9 : Below G w6 w9 := hB8.trans (grown_below hg9 (fun k e => by cases e; exact Nat.le_refl _) (by have := hB8.size; omega))
      have hbb : bodyB (cat n s s') (cat n t t') (n + m) = bodyB s t n ++ bodyB s' t' m := bodyB_cat s s' t t' n m
      have hG9 : Has w9 G (5 + T1 + (5 + T2)) ((bodyB s t n ++ bodyB s' t' m).map cellOf) := by
        unfold Has
        rw [List.length_map, List.length_append, hB0.out, hB0'.out, List.map_append]
        exact hown9
      have hRG : Hid (Row w9 G 0 (bodyB (cat n s s') (cat n t t') (n + m))) := by rw [hbb]; exact hG9.row
      have hF9 : Has w9 F (5 + T) ((frameB (cat n s s') (cat n t t') (n + m)).map cellOf) := hR6.out.of_block (hB9.block F (by omega))
      have hlc : Hid ((bodyB (cat n s s') (cat n t t') (n + m)).length = T) := by show _ = _; rw [hbb, List.length_append, hB0.out, hB0'.out, ht3.out]
      have hRF : Hid (Row w9 F of (bodyB (cat n s s') (cat n t t') (n + m))) := by
        intro j hj
        have := body_cells (o := of) (fun h => hof (by rw [← hlc.out]; exact h)) hF9 j (cellOf (bodyB (cat n s s') (cat n t t') (n + m))[j]) (by rw [List.getElem?_map, List.getElem?_eq_getElem hj]; rfl)
        rw [Addr.add_lit] at this
        exact this
      have c4 : w9.cell? ⟨F, 4, none⟩ = some (byt 107) := by
        have := hF9.row 4 (by rw [frameB_length]; omega)
        rw [show (0 : Nat) + 4 = 4 by omega] at this
        rw [this]
        simp [frameB, be4b]
      have hBz : Hid (Below g w w9) := hB6.trans (hB9.mono (by have := hB6.size; omega))
      have q4 : (4 : Int) < 5 + (T : Int) := by omega
      clear hown9 hg9 Hown8 kb hB8 hbb hG9 hF9 hB9 hB6
      generalize bodyB (cat n s s') (cat n t t') (n + m) = L at *
      go_wp2_with fail
      refine (equal F of T G 0 (5 + T1 + (5 + T2)) T (T1 + T2) L L hlc.out.symm (by rw [hlc.out, ht3.out]) _ hRF.out hRG.out).mono ?_
      rintro e w10 ⟨rfl, hw⟩
      subst w10
      have hLL : (L == L) = true := by simp
      rw [hLL]
      go_wp2
      go_ret
      exact ⟨rfl, hg ▸ hBz.out⟩
end Go.Proofs.Ybulkatzi
