/-
  LawS2266CRelease: the row's step out of the walk.
-/
import Derived.Test.YbulkatxeRows
import Derived.Test.YbulkatxeWalk
import Derived.ProofKit
import Derived.OpenShut
import Derived.ShutString
import Derived.ChangeOld
import Derived.Deep.Slices
namespace Go.Proofs.Ybulkatxe
open Go.ChangeShapes Go.WideShapes Go.ChangeAt Go.RowKit Go.Deep
set_option linter.unusedVariables false
set_option linter.unusedSimpArgs false

theorem own : ownKnob Yba.prog.godebug = none := by kernel_rfl
theorem laidOut : laidOutB Yba.prog = true := by kernel_rfl
theorem Yba.cells54 : Yba.prog.cellsOf 54 = 5 := by kernel_rfl

set_option maxRecDepth 100000 in
set_option maxHeartbeats 400000 in
/-- No entry, or more than 1024: true at once. -/
theorem walk_out (a : Option Addr) (n cap sel : Nat) (h : n = 0 ∨ 1024 < n) (hn : n ≤ maxLen) (w : World) :
    Calls Yba.prog 3 #[.slice a n cap, .int .u16 (sel : Int)] w fun e w' => e = .returned (.bool true) ∧ Below w.heap.size w w' := by
  unfold maxLen at hn
  rcases h with rfl | h
  · go_enter Yba.func3, Yba.ntmps3
    go_wp2
    go_ret
    exact ⟨rfl, Below.refl _ _⟩
  · have t1 : ((n : Int) == 0) = false := beq_eq_false_iff_ne.2 (by omega)
    have t2 : decide ((1024 : Int) < (n : Int)) = true := decide_eq_true (by omega)
    go_enter Yba.func3, Yba.ntmps3
    go_wp2
    go_ret
    exact ⟨rfl, Below.refl _ _⟩

theorem u8_nat {x : Int} (h : (Lit.int .u8 x).wf = true) : ∃ m : Nat, m < 256 ∧ x = (m : Int) := by
  have := bounds_u8 h
  exact ⟨x.toNat, by omega, by omega⟩

set_option maxRecDepth 100000 in
/-- An entry's five cells. -/
theorem open_entry {H : Type} {enc : TypeId × Value → H} {W : World} {base : Nat} {sp : Nat → Bool} {held : Bool} {fuel : Nat} {cs : List Value} {x : DataW H × List MemPlace}
    (h : DataW.trod enc Yba.prog W base sp held fuel 54 cs = some x) :
    ∃ q : (Nat × Nat × Nat) × (Bool × Bool), q.1.1 < 256 ∧ q.1.2.1 < 256 ∧ q.1.2.2 < 256 ∧ cs = [.int .u8 (q.1.1 : Int), .int .u8 (q.1.2.1 : Int), .bool q.2.1, .bool q.2.2, .int .u8 (q.1.2.2 : Int)] := by
  obtain ⟨xs, n, _, rfl, hl, hlen, hf⟩ := DataW.trod_struct Yba.underlying54 h
  rw [Yba.cells54] at hl
  have c5 : Yba.prog.cellsOf 5 = 1 := by kernel_rfl
  have c4 : Yba.prog.cellsOf 4 = 1 := by kernel_rfl
  match cs, hl with
  | [v0, v1, v2, v3, v4], _ =>
    match xs, hlen with
    | [x0, x1, x2, x3, x4], _ =>
      have f0 : DataW.trod enc Yba.prog W base sp held n 5 (([v0, v1, v2, v3, v4].drop 0).take (Yba.prog.cellsOf 5)) = some x0 := hf 0 _ rfl
      have f1 : DataW.trod enc Yba.prog W base sp held n 5 (([v0, v1, v2, v3, v4].drop 1).take (Yba.prog.cellsOf 5)) = some x1 := hf 1 _ rfl
      have f2 : DataW.trod enc Yba.prog W base sp held n 4 (([v0, v1, v2, v3, v4].drop 2).take (Yba.prog.cellsOf 4)) = some x2 := hf 2 _ rfl
      have f3 : DataW.trod enc Yba.prog W base sp held n 4 (([v0, v1, v2, v3, v4].drop 3).take (Yba.prog.cellsOf 4)) = some x3 := hf 3 _ rfl
      have f4 : DataW.trod enc Yba.prog W base sp held n 5 (([v0, v1, v2, v3, v4].drop 4).take (Yba.prog.cellsOf 5)) = some x4 := hf 4 _ rfl
      rw [c5] at f0 f1 f4
      rw [c4] at f2 f3
      obtain ⟨a0, e0, _, w0⟩ := DataW.trod_int Yba.underlying5 f0
      obtain ⟨a1, e1, _, w1⟩ := DataW.trod_int Yba.underlying5 f1
      obtain ⟨a2, e2, _⟩ := DataW.trod_bool Yba.underlying4 f2
      obtain ⟨a3, e3, _⟩ := DataW.trod_bool Yba.underlying4 f3
      obtain ⟨a4, e4, _, w4⟩ := DataW.trod_int Yba.underlying5 f4
      simp at e0 e1 e2 e3 e4
      subst e0 e1 e2 e3 e4
      obtain ⟨m0, h0, rfl⟩ := u8_nat w0
      obtain ⟨m1, h1, rfl⟩ := u8_nat w1
      obtain ⟨m4, h4, rfl⟩ := u8_nat w4
      exact ⟨((m0, m1, m4), (a2, a3)), h0, h1, h4, rfl⟩

set_option maxRecDepth 100000 in
theorem lifted (os : Os) (started : os.Started) (H : Type) (enc : TypeId × Value → H) :
    ReturnsInHanded {} Yba.checked os 3 .any (Rows.lawS2266CReleaseSpec.pre6 enc Yba.prog Yba.f3 Rows.lawS2266CReleaseRow.domain false) (Rows.lawS2266CReleaseSpec.post enc Yba.prog Yba.f3 false true false false) := by
  refine returnsInHanded_of_change (C := Yba.checked) own started (by kernel_rfl) Yba.func3
    (ChangeSpec.witness6 (enc := enc) (C := Yba.checked) false ⟨#[], #[.slice none 0 0, .int .u16 0], []⟩ 8 (by kernel_rfl) (by kernel_rfl) (by kernel_rfl) (by kernel_rfl)) ?_
  intro W base args ds gs before hval0 hW hcnd _
  have hval : ∀ (j : Nat) t v, Yba.f3.params[j]? = some t → args[j]? = some v → Value.okWide Yba.prog W .any base t v := hval0
  have hW' := hW
  obtain ⟨p, q, hA0, hV, rfl, hfz, hnd⟩ := hW
  have hA : DataW.TrodAll enc Yba.prog W 0 (fun _ => true) true Yba.f3.params.toList args.toList ds p := hA0
  rw [Yba.params3] at hA hval
  obtain ⟨v0, vs0, d0, ds0, p0, q0, hargs, rfl, rfl, h0, r0⟩ := trodAll_cons hA
  obtain ⟨v1, vs1, d1, ds1, p1, q1, rfl, rfl, rfl, h1, r1⟩ := trodAll_cons r0
  obtain ⟨rfl, rfl, rfl⟩ := trodAll_nil r1
  obtain rfl : args = #[v0, v1] := by cases args; simp_all
  obtain ⟨rfl, rfl⟩ := trodVars_none hV
  obtain ⟨a0, len0, cap0, rfl⟩ := okWide_slice Yba.underlying22 (hval 0 22 v0 rfl rfl)
  have k0 := h0
  have lt0 : ∀ x ∈ p0, x.block < W.heap.size := by obtain ⟨m, hm⟩ := k0; exact DataW.trod_lt m _ _ _ hm
  obtain ⟨a1, rfl, rfl, rfl, w1⟩ := open_int Yba.underlying23 (hval 1 23 v1 rfl rfl) h1
  clear hA0 hval0
  obtain ⟨sel, hsel, rfl⟩ : ∃ m : Nat, m < 65536 ∧ a1 = (m : Int) := by
    have := bounds_u16 w1
    exact ⟨a1.toNat, by omega, by omega⟩
  have main : Calls Yba.prog 3 #[.slice a0 len0 cap0, .int .u16 (sel : Int)] W fun e w' => e = .returned (.bool true) ∧ Below W.heap.size W w' := by
    obtain ⟨fuel, hf⟩ := h0
    rcases open_slice Yba.underlying22 hf with ⟨hcs, _⟩ | ⟨a, len, cap, m, nn, Dd, Pl, hcs, _, hl, hm, hmm, _, hx⟩
    · simp [Value.cells] at hcs
      obtain ⟨rfl, rfl, rfl⟩ := hcs
      exact walk_out none 0 0 sel (.inl rfl) (by decide) W
    · simp [Value.cells] at hcs
      obtain ⟨rfl, rfl, rfl⟩ := hcs
      simp only [if_true] at hmm
      subst hmm
      by_cases hout : len0 = 0 ∨ 1024 < len0
      · exact walk_out _ len0 m sel hout (by omega) W
      · rw [Yba.cells54] at hx
        have hpos : 0 < len0 := by omega
        obtain ⟨b, off, spot⟩ := a
        have hspot : spot = none := by
          obtain ⟨cs', h1, h2⟩ := hx 0 (by omega)
          obtain ⟨_, hlen, hc⟩ := World.cells?_some h1
          have := hc 0 (by omega)
          rw [List.getElem?_eq_getElem (by omega)] at this
          simpa [Addr.add] using World.cell?_spot this
        subst hspot
        obtain ⟨Q, hQ⟩ := choose_lt (α := (Nat × Nat × Nat) × (Bool × Bool)) (n := len0)
          (p := fun i q => (q.1.1 < 256 ∧ q.1.2.1 < 256 ∧ q.1.2.2 < 256) ∧ ∀ j (v : Value), [Value.int .u8 (q.1.1 : Int), .int .u8 (q.1.2.1 : Int), .bool q.2.1, .bool q.2.2, .int .u8 (q.1.2.2 : Int)][j]? = some v → W.cell? ⟨b, off + i * 5 + j, none⟩ = some v) (fun i hi => by
            obtain ⟨cs', h1, h2⟩ := hx i (by omega)
            obtain ⟨q, g1, g2, g3, rfl⟩ := open_entry h2
            obtain ⟨_, hlen, hc⟩ := World.cells?_some h1
            refine ⟨q, ⟨g1, g2, g3⟩, fun j v hv => ?_⟩
            have hj : j < 5 := by
              have := (List.getElem?_eq_some_iff.1 hv).1
              simpa using this
            have := hc j hj
            rw [hv, add_add] at this
            rw [← this]
            simp only [Addr.add]
            split
            · rename_i e
              have e1 : i * 5 = 0 := by omega
              have e2 : j = 0 := by omega
              simp [e1, e2]
            · congr 2
              omega)
        have lim : ∀ f : Nat → Nat, (∀ i, i < len0 → f i < 256) → ∀ i, (if i < len0 then f i else 0) < 256 := fun f hf i => by
          split
          · exact hf i ‹_›
          · omega
        refine walk b off len0 m sel (fun i => if i < len0 then (Q i).1.1 else 0) (fun i => if i < len0 then (Q i).1.2.1 else 0) (fun i => if i < len0 then (Q i).1.2.2 else 0) (fun i => (Q i).2.1) (fun i => (Q i).2.2) W hpos (by omega) hsel
          (fun i hi => ?_) (fun i hi => ?_) (fun i hi => ?_) (fun i hi => ?_) (fun i hi => ?_) (lim _ fun i hi => (hQ i hi).1.1) (lim _ fun i hi => (hQ i hi).1.2.1) (lim _ fun i hi => (hQ i hi).1.2.2)
        · simpa [hi] using (hQ i hi).2 0 _ rfl
        · simpa [hi] using (hQ i hi).2 1 _ rfl
        · simpa [hi] using (hQ i hi).2 2 _ rfl
        · simpa [hi] using (hQ i hi).2 3 _ rfl
        · simpa [hi] using (hQ i hi).2 4 _ rfl
  refine main.mono fun e W' ⟨he, bel⟩ => ?_
  subst he
  exact ⟨_, rfl, _, _, _, [], _, [], hW', trodAll_mk1 (shut_bool Yba.underlying4 _), (trodAll_cons_mk (Below.trod laidOut (by kernel_rfl) (of_decide_eq_true (by kernel_rfl)) k0 bel lt0) (trodAll_cons_mk (shut_int Yba.underlying23 w1) trodAll_mk0)), rfl, bel.frame _, fun h => by cases h⟩

theorem over : Rows.lawS2266CReleaseRow.holds Yba.pinned (OpenSpec.ofChange Rows.lawS2266CReleaseSpec) :=
  OpenClaim.holds_of_wide 3 Yba.f3 rfl rfl rfl rfl rfl rfl rfl ⟨rfl, rfl, rfl, rfl, rfl⟩ rfl rfl rfl rfl rfl (by kernel_rfl) Yba.func3 (by kernel_rfl)
    (of_decide_eq_true (by kernel_rfl)) (by unfold Func.isWrapper; first | (rw [if_pos (by decide +kernel)]; kernel_rfl) | (rw [if_neg (by decide +kernel)]; exact ⟨rfl, rfl⟩))
    (fun os started H enc _ => lifted os started H enc)

/-- THE STATEMENT -/
theorem release_proved : Rows.LawS2266CReleaseSaid := over
end Go.Proofs.Ybulkatxe
