/-
  LawS2271BKey: the two slices as they came in.
-/
import Derived.Test.YbulkatzwFs
import Derived.ProofKit
import Derived.OpenShut
import Derived.ShutString
import Derived.ChangeOld
import Derived.Deep.Slices
namespace Go.Proofs.Ybulkatzw
open Go.ChangeShapes Go.WideShapes Go.ChangeAt Go.RowKit Go.Deep
open Go.ChangeMaps (open_string shut_string)
set_option linter.unusedVariables false
set_option linter.unusedSimpArgs false
set_option maxRecDepth 100000

theorem Yba.cells26 : Yba.prog.cellsOf 26 = 6 := by kernel_rfl

theorem u8_nat {x : Int} (h : (Lit.int .u8 x).wf = true) : ∃ m : Nat, m < 256 ∧ x = (m : Int) := by
  have := bounds_u8 h
  exact ⟨x.toNat, by omega, by omega⟩
theorem u64_nat {x : Int} (h : (Lit.int .u64 x).wf = true) : ∃ m : Nat, m < 18446744073709551616 ∧ x = (m : Int) := by
  have := bounds_u64 h
  exact ⟨x.toNat, by omega, by omega⟩

/-- A slice of bytes that came in. -/
theorem bytes_of {H : Type} {enc : TypeId × Value → H} {W : World} {fuel : Nat} {cs : List Value} {x : DataW H × List MemPlace}
    (hf : DataW.trod enc Yba.prog W 0 (fun _ => true) true fuel 23 cs = some x) :
    ∃ (ba : Option Addr) (B : List UInt8) (bc : Nat), cs = [.slice ba B.length bc] ∧ B.length ≤ bc ∧ B.length ≤ maxLen ∧ (ba = none → B = [] ∧ bc = 0) ∧ ∀ ad, ba = some ad → ∀ j (hj : j < B.length), W.cell? (ad.add j) = some (cellOf B[j]) := by
  rcases open_slice1 Yba.underlying23 (by kernel_rfl) hf with ⟨hcs, _⟩ | ⟨a, len, cap, m, nn, V, Dd, Pl, hcs, _, hl, hm, hmm, _, hx⟩
  · exact ⟨none, [], 0, hcs, Nat.le_refl _, Nat.zero_le _, fun _ => ⟨rfl, rfl⟩, fun ad e => by cases e⟩
  · simp only [if_true] at hmm
    subst hmm
    obtain ⟨Q, hQ⟩ := choose_lt (α := UInt8) (n := len) (p := fun i b => W.cell? (a.add i) = some (cellOf b)) (fun i hi => by
      obtain ⟨h1, h2⟩ := hx i (by omega)
      obtain ⟨y, e, _, hw⟩ := DataW.trod_int Yba.underlying5 h2
      obtain ⟨k, hk, rfl⟩ := u8_nat hw
      simp only [List.cons.injEq, and_true] at e
      refine ⟨UInt8.ofNat k, ?_⟩
      rw [h1, e]
      simp only [cellOf, UInt8.toNat_ofNat', Nat.reducePow, Nat.mod_eq_of_lt hk])
    refine ⟨some a, (List.range len).map Q, m, by simp [hcs], by simpa using hl, by simp; omega, (fun e => by cases e), fun ad e j hj => ?_⟩
    cases e
    have hj' : j < len := by simpa using hj
    rw [hQ j hj']
    simp

/-- A field's six cells. -/
theorem open_field {H : Type} {enc : TypeId × Value → H} {W : World} {fuel : Nat} {cs : List Value} {x : DataW H × List MemPlace}
    (h : DataW.trod enc Yba.prog W 0 (fun _ => true) true fuel 26 cs = some x) :
    ∃ f : Fd, cs = [.int .u8 (f.kind : Int), .int .u8 (f.size : Int), .int .i64 f.I, .int .u64 (f.U : Int), .string f.S, .slice f.ba f.B.length f.bc] ∧ BOk W f ∧ Small f := by
  obtain ⟨xs, n, _, rfl, hl, hlen, hf⟩ := DataW.trod_struct Yba.underlying26 h
  rw [Yba.cells26] at hl
  have c5 : Yba.prog.cellsOf 5 = 1 := by kernel_rfl
  have c2 : Yba.prog.cellsOf 2 = 1 := by kernel_rfl
  have c24 : Yba.prog.cellsOf 24 = 1 := by kernel_rfl
  have c9 : Yba.prog.cellsOf 9 = 1 := by kernel_rfl
  have c23 : Yba.prog.cellsOf 23 = 1 := by kernel_rfl
  match cs, hl with
  | [v0, v1, v2, v3, v4, v5], _ =>
    match xs, hlen with
    | [x0, x1, x2, x3, x4, x5], _ =>
      have f0 : DataW.trod enc Yba.prog W 0 (fun _ => true) true n 5 (([v0, v1, v2, v3, v4, v5].drop 0).take (Yba.prog.cellsOf 5)) = some x0 := hf 0 _ rfl
      have f1 : DataW.trod enc Yba.prog W 0 (fun _ => true) true n 5 (([v0, v1, v2, v3, v4, v5].drop 1).take (Yba.prog.cellsOf 5)) = some x1 := hf 1 _ rfl
      have f2 : DataW.trod enc Yba.prog W 0 (fun _ => true) true n 2 (([v0, v1, v2, v3, v4, v5].drop 2).take (Yba.prog.cellsOf 2)) = some x2 := hf 2 _ rfl
      have f3 : DataW.trod enc Yba.prog W 0 (fun _ => true) true n 24 (([v0, v1, v2, v3, v4, v5].drop 3).take (Yba.prog.cellsOf 24)) = some x3 := hf 3 _ rfl
      have f4 : DataW.trod enc Yba.prog W 0 (fun _ => true) true n 9 (([v0, v1, v2, v3, v4, v5].drop 4).take (Yba.prog.cellsOf 9)) = some x4 := hf 4 _ rfl
      have f5 : DataW.trod enc Yba.prog W 0 (fun _ => true) true n 23 (([v0, v1, v2, v3, v4, v5].drop 5).take (Yba.prog.cellsOf 23)) = some x5 := hf 5 _ rfl
      rw [c5] at f0 f1
      rw [c2] at f2
      rw [c24] at f3
      rw [c9] at f4
      rw [c23] at f5
      obtain ⟨a0, e0, _, w0⟩ := DataW.trod_int Yba.underlying5 f0
      obtain ⟨a1, e1, _, w1⟩ := DataW.trod_int Yba.underlying5 f1
      obtain ⟨a2, e2, _, w2⟩ := DataW.trod_int Yba.underlying2 f2
      obtain ⟨a3, e3, _, w3⟩ := DataW.trod_int Yba.underlying24 f3
      obtain ⟨a4, e4, _, w4⟩ := DataW.trod_string Yba.underlying9 f4
      obtain ⟨ba, B, bc, e5, h1, h2, h3, h4⟩ := bytes_of f5
      obtain ⟨m0, l0, rfl⟩ := u8_nat w0
      obtain ⟨m1, l1, rfl⟩ := u8_nat w1
      obtain ⟨m3, l3, rfl⟩ := u64_nat w3
      simp at e0 e1 e2 e3 e4 e5
      subst e0 e1 e2 e3 e4 e5
      exact ⟨⟨m0, m1, a2, m3, a4, B, ba, bc⟩, rfl, ⟨h3, h4⟩, l0, l1, l3, w4, h2⟩

/-- The fields that came in, as the walk wants them. -/
theorem fields_of {H : Type} {enc : TypeId × Value → H} {W : World} {fuel : Nat} {a : Option Addr} {n c : Nat} {x : DataW H × List MemPlace}
    (hf : DataW.trod enc Yba.prog W 0 (fun _ => true) true fuel 22 (Value.slice a n c).cells.toList = some x) : ∃ F, IsFields W a n c F := by
  have inh : Inhabited Fd := ⟨⟨0, 0, 0, 0, ByteArray.empty, [], none, 0⟩⟩
  rcases open_slice Yba.underlying22 hf with ⟨hcs, _⟩ | ⟨a', len, cap, m, nn, Dd, Pl, hcs, _, hl, hm, hmm, _, hx⟩
  · simp [Value.cells] at hcs
    obtain ⟨rfl, rfl, rfl⟩ := hcs
    exact ⟨fun _ => inh.default, .inl rfl, by decide⟩
  · simp [Value.cells] at hcs
    obtain ⟨rfl, rfl, rfl⟩ := hcs
    simp only [if_true] at hmm
    subst hmm
    by_cases hn : n = 0
    · exact ⟨fun _ => inh.default, .inl hn, by omega⟩
    · rw [Yba.cells26] at hx
      obtain ⟨b, off, spot⟩ := a'
      have hspot : spot = none := by
        obtain ⟨cs', h1, h2⟩ := hx 0 (by omega)
        obtain ⟨_, hlen, hc⟩ := World.cells?_some h1
        have := hc 0 (by omega)
        rw [List.getElem?_eq_getElem (by omega)] at this
        simpa [Addr.add] using World.cell?_spot this
      subst hspot
      obtain ⟨F, hF⟩ := choose_lt (α := Fd) (n := n)
        (p := fun i f => BOk W f ∧ Small f ∧ ∀ j (v : Value), [Value.int .u8 (f.kind : Int), .int .u8 (f.size : Int), .int .i64 f.I, .int .u64 (f.U : Int), .string f.S, .slice f.ba f.B.length f.bc][j]? = some v → W.cell? ⟨b, off + i * 6 + j, none⟩ = some v) (fun i hi => by
          obtain ⟨cs', h1, h2⟩ := hx i (by omega)
          obtain ⟨f, rfl, g1, g2⟩ := open_field h2
          obtain ⟨_, hlen, hc⟩ := World.cells?_some h1
          refine ⟨f, g1, g2, fun j v hv => ?_⟩
          have hj : j < 6 := by
            have := (List.getElem?_eq_some_iff.1 hv).1
            simpa using this
          have := hc j hj
          rw [hv, add_add] at this
          rw [← this]
          simp only [Addr.add]
          split
          · rename_i e
            have e1 : i * 6 = 0 := by omega
            have e2 : j = 0 := by omega
            simp [e1, e2]
          · congr 2
            omega)
      exact ⟨F, .inr ⟨b, off, rfl, hl, fun i hi => ⟨⟨(hF i hi).2.2 0 _ rfl, (hF i hi).2.2 1 _ rfl, (hF i hi).2.2 2 _ rfl, (hF i hi).2.2 3 _ rfl, (hF i hi).2.2 4 _ rfl, (hF i hi).2.2 5 _ rfl⟩, (hF i hi).1, (hF i hi).2.1⟩⟩, by omega⟩

/-- The picks that came in, as the walk wants them. -/
theorem picks_of {H : Type} {enc : TypeId × Value → H} {W : World} {fuel : Nat} {a : Option Addr} {n c : Nat} {x : DataW H × List MemPlace}
    (hf : DataW.trod enc Yba.prog W 0 (fun _ => true) true fuel 23 (Value.slice a n c).cells.toList = some x) : ∃ g, IsPicks W a n c g := by
  obtain ⟨ba, B, bc, hcs, h1, h2, h3, h4⟩ := bytes_of hf
  simp [Value.cells] at hcs
  obtain ⟨rfl, rfl, rfl⟩ := hcs
  refine ⟨fun j => (B.getD j 0).toNat, ?_, h2⟩
  by_cases hn : B.length = 0
  · exact .inl hn
  · cases a with
    | none => have := (h3 rfl).1; rw [this] at hn; exact absurd rfl hn
    | some ad =>
      obtain ⟨b, off, spot⟩ := ad
      have hspot : spot = none := by
        have := h4 _ rfl 0 (by omega)
        simpa [Addr.add] using World.cell?_spot this
      subst hspot
      refine .inr ⟨b, off, rfl, h1, fun j hj => ⟨?_, ?_⟩⟩
      · have := h4 _ rfl j hj
        rw [Addr.add_lit] at this
        rw [this]
        simp [cellOf, List.getD, hj]
      · have := (B.getD j 0).toNat_lt
        simpa using this
end Go.Proofs.Ybulkatzw
