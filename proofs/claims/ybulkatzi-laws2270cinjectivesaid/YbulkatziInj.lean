/-
  LawS2270CInjective: the walk and the row's step.
-/
import Derived.Test.YbulkatziEqual
import Derived.ProofKit
import Derived.OpenShut
import Derived.ShutString
import Derived.ChangeOld
namespace Go.Proofs.Ybulkatzi
open Go.ChangeShapes Go.WideShapes Go.ChangeAt Go.RowKit Go.Lib
open Go.ChangeMaps (open_string shut_string)
set_option linter.unusedVariables false
set_option linter.unusedSimpArgs false

theorem one_stamp {w : World} (s : ByteArray) (t : Int) : IsStamps (w.alloc (.cells #[.string s, .int .i64 t] 25)) (some ⟨w.heap.size, 0, none⟩) 1 1 (fun _ => s) (fun _ => t) :=
  ⟨by decide, .inr ⟨w.heap.size, 0, rfl, Nat.le_refl _, fun i hi => by
    obtain rfl : i = 0 := by omega
    exact ⟨cell_alloc_new w _ 25 0, cell_alloc_new w _ 25 1⟩⟩⟩

theorem Row.later {w w' : World} {b o : Nat} {l : List UInt8} (h : Row w b o l) (hb : w'.heap[b]? = w.heap[b]?) : Row w' b o l := fun j hj => (World.cell?_of_block (a := ⟨b, o + j, none⟩) hb).trans (h j hj)

theorem ba_beq (s t : ByteArray) : (s == t) = (s.data == t.data) := by cases s; cases t; rfl
theorem ba_same (s : ByteArray) : (s.toList == s.toList) = true := by simp
theorem ba_other {s t : ByteArray} (h : s ≠ t) : (s.toList == t.toList) = false := by
  rw [← beq_toListBytes, ba_beq]
  exact beq_eq_false_iff_ne.2 (fun e => h (by cases s; cases t; simp_all))

set_option maxHeartbeats 400000 in
theorem inj_walk (s1 : ByteArray) (t1 : Int) (s2 : ByteArray) (t2 : Int) (z1 : s1.size ≤ maxLen) (hw1 : (Lit.int .i64 t1).wf = true) (z2 : s2.size ≤ maxLen) (hw2 : (Lit.int .i64 t2).wf = true) (w : World) :
    Calls Yba.prog 5 #[.string s1, .int .i64 t1, .string s2, .int .i64 t2] w fun e w' => e = .returned (.bool true) ∧ Below w.heap.size w w' := by
  have b1 := bounds_i64 hw1
  have b2 := bounds_i64 hw2
  have m1 : s1.size ≤ 9223372036854775807 := by unfold maxLen at z1; omega
  have m2 : s2.size ≤ 9223372036854775807 := by unfold maxLen at z2; omega
  clear hw1 hw2 z1 z2
  by_cases l1 : 1024 < s1.size
  · have q1 : (1024 : Int) < (s1.size : Int) := by omega
    go_enter Yba.func5, Yba.ntmps5
    go_wp2
    go_ret
    exact ⟨rfl, Below.refl _ _⟩
  · have q1 : ¬ (1024 : Int) < (s1.size : Int) := by omega
    by_cases l2 : 1024 < s2.size
    · have q2 : (1024 : Int) < (s2.size : Int) := by omega
      go_enter Yba.func5, Yba.ntmps5
      go_wp2
      go_ret
      exact ⟨rfl, Below.refl _ _⟩
    · have q2 : ¬ (1024 : Int) < (s2.size : Int) := by omega
      have HI : Hid (frameB (fun _ => s1) (fun _ => t1) 1 = frameB (fun _ => s2) (fun _ => t2) 1 → s1 = s2 ∧ t1 = t2) := frame_inj b1.1 b1.2 b2.1 b2.2
      have hl1 : Hid ((frameB (fun _ => s1) (fun _ => t1) 1).length = 5 + tot (fun _ => s1) 1) := frameB_length _ _ _
      have hl2 : Hid ((frameB (fun _ => s2) (fun _ => t2) 1).length = 5 + tot (fun _ => s2) 1) := frameB_length _ _ _
      go_enter Yba.func5, Yba.ntmps5
      go_wp2_with fail
      refine (ack _ 1 1 (fun _ => s1) (fun _ => t1) (by omega) (fun _ _ => by omega) _ (one_stamp s1 t1)).mono ?_
      rintro e w1 ⟨F, rfl, hF, hH, hb⟩
      rw [frame_map] at hH
      have hR : Hid (Row w1 F 0 (frameB (fun _ => s1) (fun _ => t1) 1)) := hH.row
      have hFl := hH.lt
      have hb1 : Hid (Below w.heap.size w w1) := ((Below.refl _ _).alloc (Nat.le_refl _) _).trans (hb.mono (by simp))
      clear hH hb hF
      generalize hn1 : 5 + tot (fun _ => s1) 1 = n1 at *
      go_wp2_with fail
      refine (ack _ 1 1 (fun _ => s2) (fun _ => t2) (by omega) (fun _ _ => by omega) _ (one_stamp s2 t2)).mono ?_
      rintro e w2 ⟨F', rfl, hF', hH', hb'⟩
      rw [frame_map] at hH'
      have hR' : Hid (Row w2 F' 0 (frameB (fun _ => s2) (fun _ => t2) 1)) := hH'.row
      have hb2 : Below w1.heap.size w1 w2 := ((Below.refl _ _).alloc (Nat.le_refl _) _).trans (hb'.mono (by simp))
      have hR2 : Hid (Row w2 F 0 (frameB (fun _ => s1) (fun _ => t1) 1)) := hR.out.later (hb2.block F hFl)
      have hb3 : Hid (Below w.heap.size w w2) := hb1.out.trans (hb2.mono hb1.out.size)
      clear hH' hb' hF' hb2 hR hFl
      generalize hn2 : 5 + tot (fun _ => s2) 1 = n2 at *
      generalize hf1 : frameB (fun _ => s1) (fun _ => t1) 1 = f1 at *
      generalize hf2 : frameB (fun _ => s2) (fun _ => t2) 1 = f2 at *
      by_cases hs : s1 = s2 ∧ t1 = t2
      · obtain ⟨rfl, rfl⟩ := hs
        have hff : (f1 == f2) = true := by rw [← hf1, ← hf2]; simp
        have hss := ba_same s1
        have htt : (t1 == t1) = true := by simp
        go_wp2_with fail
        refine (equal F 0 n1 F' 0 n2 n1 n2 f1 f2 hl1.out.symm hl2.out.symm _ hR2.out hR'.out).mono ?_
        rintro e w3 ⟨rfl, rfl⟩
        rw [hff]
        go_wp2
        go_ret
        exact ⟨rfl, hb3.out⟩
      · have hff : (f1 == f2) = false := beq_eq_false_iff_ne.2 (fun e => hs (HI.out e))
        by_cases hs1 : s1 = s2
        · have htt : (t1 == t2) = false := beq_eq_false_iff_ne.2 (fun e => hs ⟨hs1, e⟩)
          clear hs
          have hss : (s1.toList == s2.toList) = true := by rw [hs1]; exact ba_same s2
          go_wp2_with fail
          refine (equal F 0 n1 F' 0 n2 n1 n2 f1 f2 hl1.out.symm hl2.out.symm _ hR2.out hR'.out).mono ?_
          rintro e w3 ⟨rfl, rfl⟩
          rw [hff]
          go_wp2
          go_ret
          exact ⟨rfl, hb3.out⟩
        · have hss := ba_other hs1
          go_wp2_with fail
          refine (equal F 0 n1 F' 0 n2 n1 n2 f1 f2 hl1.out.symm hl2.out.symm _ hR2.out hR'.out).mono ?_
          rintro e w3 ⟨rfl, rfl⟩
          rw [hff]
          go_wp2
          go_ret
          exact ⟨rfl, hb3.out⟩
end Go.Proofs.Ybulkatzi
