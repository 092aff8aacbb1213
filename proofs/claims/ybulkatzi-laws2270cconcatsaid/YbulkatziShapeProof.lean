/-
  LawS2270CShape: the row's step out of the walk.
-/
import Derived.Test.YbulkatziRows
import Derived.Test.YbulkatziShape
import Derived.ProofKit
import Derived.OpenShut
import Derived.ShutString
import Derived.ChangeOld
import Derived.Deep.Slices
namespace Go.Proofs.Ybulkatzi
open Go.ChangeShapes Go.WideShapes Go.ChangeAt Go.RowKit Go.Deep
open Go.ChangeMaps (open_string shut_string)
set_option linter.unusedVariables false
set_option linter.unusedSimpArgs false

theorem own : ownKnob Yba.prog.godebug = none := by kernel_rfl
theorem laidOut : laidOutB Yba.prog = true := by kernel_rfl
theorem Yba.cells25 : Yba.prog.cellsOf 25 = 2 := by kernel_rfl

set_option maxRecDepth 100000 in
/-- A stamp's two cells. -/
theorem open_stamp {H : Type} {enc : TypeId × Value → H} {W : World} {base : Nat} {sp : Nat → Bool} {held : Bool} {fuel : Nat} {cs : List Value} {x : DataW H × List MemPlace}
    (h : DataW.trod enc Yba.prog W base sp held fuel 25 cs = some x) :
    ∃ q : ByteArray × Int, q.1.size ≤ maxLen ∧ cs = [.string q.1, .int .i64 q.2] := by
  obtain ⟨xs, n, _, rfl, hl, hlen, hf⟩ := DataW.trod_struct Yba.underlying25 h
  rw [Yba.cells25] at hl
  have c9 : Yba.prog.cellsOf 9 = 1 := by kernel_rfl
  have c2 : Yba.prog.cellsOf 2 = 1 := by kernel_rfl
  match cs, hl with
  | [v0, v1], _ =>
    match xs, hlen with
    | [x0, x1], _ =>
      have f0 : DataW.trod enc Yba.prog W base sp held n 9 (([v0, v1].drop 0).take (Yba.prog.cellsOf 9)) = some x0 := hf 0 _ rfl
      have f1 : DataW.trod enc Yba.prog W base sp held n 2 (([v0, v1].drop 1).take (Yba.prog.cellsOf 2)) = some x1 := hf 1 _ rfl
      rw [c9] at f0
      rw [c2] at f1
      obtain ⟨a0, e0, _, w0⟩ := DataW.trod_string Yba.underlying9 f0
      obtain ⟨a1, e1, _, w1⟩ := DataW.trod_int Yba.underlying2 f1
      simp at e0 e1
      subst e0 e1
      exact ⟨(a0, a1), w0, rfl⟩

set_option maxRecDepth 100000 in
/-- A slice of stamps that came in, as the walks want it. -/
theorem stamps_of {H : Type} {enc : TypeId × Value → H} {W : World} {fuel : Nat} {a : Option Addr} {n c : Nat} {x : DataW H × List MemPlace}
    (hf : DataW.trod enc Yba.prog W 0 (fun _ => true) true fuel 22 (Value.slice a n c).cells.toList = some x) : ∃ s t, (∀ i, (s i).size ≤ maxLen) ∧ IsStamps W a n c s t := by
  rcases open_slice Yba.underlying22 hf with ⟨hcs, _⟩ | ⟨a', len, cap, m, nn, Dd, Pl, hcs, _, hl, hm, hmm, _, hx⟩
  · simp [Value.cells] at hcs
    obtain ⟨rfl, rfl, rfl⟩ := hcs
    exact ⟨fun _ => ByteArray.empty, fun _ => 0, fun _ => Nat.zero_le _, by decide, .inl rfl⟩
  · simp [Value.cells] at hcs
    obtain ⟨rfl, rfl, rfl⟩ := hcs
    simp only [if_true] at hmm
    subst hmm
    by_cases hn : n = 0
    · exact ⟨fun _ => ByteArray.empty, fun _ => 0, fun _ => Nat.zero_le _, by omega, .inl hn⟩
    · rw [Yba.cells25] at hx
      obtain ⟨b, off, spot⟩ := a'
      have hspot : spot = none := by
        obtain ⟨cs', h1, h2⟩ := hx 0 (by omega)
        obtain ⟨_, hlen, hc⟩ := World.cells?_some h1
        have := hc 0 (by omega)
        rw [List.getElem?_eq_getElem (by omega)] at this
        simpa [Addr.add] using World.cell?_spot this
      subst hspot
      obtain ⟨Q, hQ⟩ := choose_lt (α := ByteArray × Int) (n := n)
        (p := fun i q => q.1.size ≤ maxLen ∧ ∀ j (v : Value), [Value.string q.1, .int .i64 q.2][j]? = some v → W.cell? ⟨b, off + i * 2 + j, none⟩ = some v) (fun i hi => by
          obtain ⟨cs', h1, h2⟩ := hx i (by omega)
          obtain ⟨q, g1, rfl⟩ := open_stamp h2
          obtain ⟨_, hlen, hc⟩ := World.cells?_some h1
          refine ⟨q, g1, fun j v hv => ?_⟩
          have hj : j < 2 := by
            have := (List.getElem?_eq_some_iff.1 hv).1
            simpa using this
          have := hc j hj
          rw [hv, add_add] at this
          rw [← this]
          simp only [Addr.add]
          split
          · rename_i e
            have e1 : i * 2 = 0 := by omega
            have e2 : j = 0 := by omega
            simp [e1, e2]
          · congr 2
            omega)
      refine ⟨fun i => if i < n then (Q i).1 else ByteArray.empty, fun i => (Q i).2, fun i => ?_, by omega, .inr ⟨b, off, rfl, hl, fun i hi => ⟨?_, ?_⟩⟩⟩
      · show (if i < n then (Q i).1 else ByteArray.empty).size ≤ maxLen
        split
        · exact (hQ i ‹_›).1
        · exact Nat.zero_le _
      · simpa [hi] using (hQ i hi).2 0 _ rfl
      · simpa [hi] using (hQ i hi).2 1 _ rfl

set_option maxRecDepth 100000 in
theorem shape_lifted (os : Os) (started : os.Started) (H : Type) (enc : TypeId × Value → H) :
    ReturnsInHanded {} Yba.checked os 3 .any (Rows.lawS2270CShapeSpec.pre6 enc Yba.prog Yba.f3 Rows.lawS2270CShapeRow.domain false) (Rows.lawS2270CShapeSpec.post enc Yba.prog Yba.f3 false true false false) := by
  refine returnsInHanded_of_change (C := Yba.checked) own started (by kernel_rfl) Yba.func3
    (ChangeSpec.witness6 (enc := enc) (C := Yba.checked) false ⟨#[], #[.slice none 0 0], []⟩ 8 (by kernel_rfl) (by kernel_rfl) (by kernel_rfl) (by kernel_rfl)) ?_
  intro W base args ds gs before hval0 hW hcnd _
  have hval : ∀ (j : Nat) t v, Yba.f3.params[j]? = some t → args[j]? = some v → Value.okWide Yba.prog W .any base t v := hval0
  have hW' := hW
  obtain ⟨p, q, hA0, hV, rfl, hfz, hnd⟩ := hW
  have hA : DataW.TrodAll enc Yba.prog W 0 (fun _ => true) true Yba.f3.params.toList args.toList ds p := hA0
  rw [Yba.params3] at hA hval
  obtain ⟨v0, vs0, d0, ds0, p0, q0, hargs, rfl, rfl, h0, r0⟩ := trodAll_cons hA
  obtain ⟨rfl, rfl, rfl⟩ := trodAll_nil r0
  obtain rfl : args = #[v0] := by cases args; simp_all
  obtain ⟨rfl, rfl⟩ := trodVars_none hV
  obtain ⟨a0, len0, cap0, rfl⟩ := okWide_slice Yba.underlying22 (hval 0 22 v0 rfl rfl)
  have k0 := h0
  have lt0 : ∀ x ∈ p0, x.block < W.heap.size := by obtain ⟨m, hm⟩ := k0; exact DataW.trod_lt m _ _ _ hm
  clear hA0 hval0
  obtain ⟨fuel, hf⟩ := h0
  obtain ⟨s, t, hz, ho⟩ := stamps_of hf
  refine (shape_walk a0 len0 cap0 s t hz W ho).mono fun e W' ⟨he, bel⟩ => ?_
  subst he
  exact ⟨_, rfl, _, _, _, [], _, [], hW', trodAll_mk1 (shut_bool Yba.underlying4 _), (trodAll_cons_mk (Below.trod laidOut (by kernel_rfl) (of_decide_eq_true (by kernel_rfl)) k0 bel lt0) trodAll_mk0), rfl, bel.frame _, fun h => by cases h⟩

theorem shape_over : Rows.lawS2270CShapeRow.holds Yba.pinned (OpenSpec.ofChange Rows.lawS2270CShapeSpec) :=
  OpenClaim.holds_of_wide 3 Yba.f3 rfl rfl rfl rfl rfl rfl rfl ⟨rfl, rfl, rfl, rfl, rfl⟩ rfl rfl rfl rfl rfl (by kernel_rfl) Yba.func3 (by kernel_rfl)
    (of_decide_eq_true (by kernel_rfl)) (by unfold Func.isWrapper; first | (rw [if_pos (by decide +kernel)]; kernel_rfl) | (rw [if_neg (by decide +kernel)]; exact ⟨rfl, rfl⟩))
    (fun os started H enc _ => shape_lifted os started H enc)

/-- THE STATEMENT -/
theorem shape_proved : Rows.LawS2270CShapeSaid := shape_over
end Go.Proofs.Ybulkatzi
