/-
  LawS2266AExact: the walk.
-/
import Derived.Test.YbulkatxeFmtErrat
namespace Go.Proofs.YbulkatxeFmt
open Go.RowKit Go.Extern.Stop Go.Stop Go.Extern
set_option linter.unusedVariables false
set_option linter.unusedSimpArgs false
set_option maxRecDepth 100000

/-- The variable errors.errorType, as the condition lays it. -/
def Typ (w : World) : Prop := w.cell? ⟨0, 0, none⟩ = some (.iface 101 (.agg #[.pointer (some ⟨16, 31, none⟩)]))
theorem Typ.later {w w' : World} (h : Typ w) (hb : Below w.heap.size w w') : Typ w' := by
  have h' : w.cell? ⟨0, 0, none⟩ = some (.iface 101 (.agg #[.pointer (some ⟨16, 31, none⟩)])) := h
  exact (hb.cell (p := ⟨0, 0, none⟩) (lt_cell h')).trans h'

set_option maxHeartbeats 400000 in
theorem exact_long (con : Bool) (cls num off : Int) (a : Option Addr) (n c : Nat) (hn : 1024 < n) (hnm : n ≤ maxLen) (w : World) :
    Calls Ybaf.prog 3 #[.bool con, .int .u8 cls, .int .u32 num, .slice a n c, .int .i64 off] w fun e w' => e = .returned (.bool true) ∧ Below w.heap.size w w' := by
  unfold maxLen at hnm
  have t : (1024 : Int) < (n : Int) := by omega
  go_enter Ybaf.func3, Ybaf.ntmps3
  go_wp2
  go_ret
  exact ⟨rfl, Below.refl _ _⟩

set_option maxHeartbeats 800000 in
theorem exact_one (cls num off : Int) (b o c z0 : Nat) (hz : z0 < 256) (hc : 1 ≤ c) (w : World) (h0 : w.cell? ⟨b, o, none⟩ = some (.int .u8 (z0 : Int))) :
    Calls Ybaf.prog 3 #[.bool false, .int .u8 cls, .int .u32 num, .slice (some ⟨b, o, none⟩) 1 c, .int .i64 off] w fun e w' => e = .returned (.bool true) ∧ Below w.heap.size w w' := by
  have hbl := lt_cell h0
  have hse := sgn_eq z0 hz
  have hss : (sgn z0 == sgn z0) = true := by simp
  go_enter Ybaf.func3, Ybaf.ntmps3
  go_wp2_with fail
  refine (inv_one cls num off b o c z0 hz hc _ (by rw [World.cell?_alloc_lt _ _ ⟨b, o, none⟩ hbl]; exact h0)).mono ?_
  rintro e w1 ⟨rfl, hb⟩
  have hb1 : Below w.heap.size w w1 := ((Below.refl _ _).alloc (Nat.le_refl _) _).trans (hb.mono (by simp))
  have h1 : w1.cell? ⟨b, o, none⟩ = some (.int .u8 (z0 : Int)) := (hb1.cell hbl).trans h0
  go_wp2
  go_ret
  exact ⟨rfl, hb1⟩

set_option maxHeartbeats 800000 in
theorem exact_err (con : Bool) (cls num off : Int) (a : Option Addr) (n c : Nat) (hn : n ≤ 1024) (hcn : con = true ∨ n ≠ 1) (w : World) (hg : Typ w)
    (hI : ∀ W, Below w.heap.size w W → Calls Ybaf.prog 8 #[.agg #[.int .u8 cls, .bool con, .int .u32 num, .slice a n c, .slice none 0 0, .int .i64 off, .int .i64 0, .int .u8 0, .int .u8 0]] W fun e w' =>
      ∃ v, e = .returned (.tuple #[.int .i64 0, v]) ∧ IsErr W off v w') :
    Calls Ybaf.prog 3 #[.bool con, .int .u8 cls, .int .u32 num, .slice a n c, .int .i64 off] w fun e w' => e = .returned (.bool true) ∧ Below w.heap.size w w' := by
  have t : ¬ (1024 : Int) < (n : Int) := by omega
  cases con with
  | true =>
    go_enter Ybaf.func3, Ybaf.ntmps3
    go_wp2_with fail
    refine (hI _ ((Below.refl _ _).alloc (Nat.le_refl _) _)).mono ?_
    rintro e w1 ⟨v, rfl, p, rfl, hp, ⟨s, hs⟩, hb⟩
    have hb1 : Below w.heap.size w w1 := ((Below.refl _ _).alloc (Nat.le_refl _) _).trans (hb.mono (by simp))
    go_wp2_with fail
    refine (errat_true p off s _ (hg.later hb1) hs).mono ?_
    rintro e w2 ⟨rfl, hb2⟩
    go_wp2
    go_ret
    exact ⟨rfl, hb1.trans (hb2.mono hb1.size)⟩
  | false =>
    have hn1 : ((n : Int) == 1) = false := by
      rcases hcn with h | h
      · cases h
      · exact beq_eq_false_iff_ne.2 (by omega)
    go_enter Ybaf.func3, Ybaf.ntmps3
    go_wp2_with fail
    refine (hI _ ((Below.refl _ _).alloc (Nat.le_refl _) _)).mono ?_
    rintro e w1 ⟨v, rfl, p, rfl, hp, ⟨s, hs⟩, hb⟩
    have hb1 : Below w.heap.size w w1 := ((Below.refl _ _).alloc (Nat.le_refl _) _).trans (hb.mono (by simp))
    go_wp2_with fail
    refine (errat_true p off s _ (hg.later hb1) hs).mono ?_
    rintro e w2 ⟨rfl, hb2⟩
    go_wp2
    go_ret
    exact ⟨rfl, hb1.trans (hb2.mono hb1.size)⟩

/-- WHAT THE WALK IS TOLD OF A SLICE OF OCTETS THAT CAME IN. -/
def IsOcts (w : World) (a : Option Addr) (n c : Nat) (z : Nat → Nat) : Prop :=
  (∀ i, z i < 256) ∧ (n = 0 ∨ ∃ b o, a = some ⟨b, o, none⟩ ∧ n ≤ c ∧ ∀ i, i < n → w.cell? ⟨b, o + i, none⟩ = some (.int .u8 (z i : Int)))

/-- invokeID at whatever is no single octet of a primitive element: an error. -/
theorem inv_bad (con : Bool) (cls num off : Int) (a : Option Addr) (n c : Nat) (z : Nat → Nat) (hn : n ≤ maxLen) (w : World) (ho : IsOcts w a n c z) (hcn : con = true ∨ n ≠ 1) :
    Calls Ybaf.prog 8 #[.agg #[.int .u8 cls, .bool con, .int .u32 num, .slice a n c, .slice none 0 0, .int .i64 off, .int .i64 0, .int .u8 0, .int .u8 0]] w fun e w' =>
      ∃ v, e = .returned (.tuple #[.int .i64 0, v]) ∧ IsErr w off v w' := by
  obtain ⟨hz, ho⟩ := ho
  cases con with
  | true => exact inv_of_err cls num off true _ rfl w (fun W _ => int_con cls num off a n c W)
  | false =>
    have hn1 : n ≠ 1 := by
      rcases hcn with h | h
      · cases h
      · exact h
    by_cases h0 : n = 0
    · subst h0
      exact inv_of_err cls num off false _ rfl w (fun W _ => int_empty cls num off a c W)
    · rcases ho with ho | ⟨b, o, rfl, hnc, hcell⟩
      · exact absurd ho h0
      · have hbl := lt_cell (hcell 0 (by omega))
        have later : ∀ W, Below w.heap.size w W → ∀ i, i < n → W.cell? ⟨b, o + i, none⟩ = some (.int .u8 (z i : Int)) := fun W hb i hi => (hb.cell hbl).trans (hcell i hi)
        by_cases a1 : z 0 = 0 ∧ z 1 < 128
        · exact inv_of_err cls num off false _ rfl w (fun W hb => int_non0 cls num off b o n c (z 1) (by omega) hn a1.2 W (by have := later W hb 0 (by omega); rw [a1.1] at this; exact this) (later W hb 1 (by omega)))
        · by_cases a2 : z 0 = 255 ∧ 128 ≤ z 1
          · exact inv_of_err cls num off false _ rfl w (fun W hb => int_non255 cls num off b o n c (z 1) (by omega) hn a2.2 (hz 1) W (by have := later W hb 0 (by omega); rw [a2.1] at this; exact this) (later W hb 1 (by omega)))
          · have hmin : z 0 = 0 ∧ 128 ≤ z 1 ∨ z 0 = 255 ∧ z 1 < 128 ∨ z 0 ≠ 0 ∧ z 0 ≠ 255 := by omega
            by_cases h8 : 8 < n
            · exact inv_of_err cls num off false _ rfl w (fun W hb => int_long cls num off b o n c z h8 hn hz hmin W (later W hb))
            · exact inv_of_big cls num off _ n c w (fun W hb => int_ok cls num off b o n c z (by omega) (by omega) hz hmin hnc W (later W hb))

theorem IsOcts.later {w W : World} {a : Option Addr} {n c : Nat} {z : Nat → Nat} (h : IsOcts w a n c z) (hb : Below w.heap.size w W) : IsOcts W a n c z := by
  refine ⟨h.1, ?_⟩
  rcases h.2 with h | ⟨b, o, e, hnc, hcell⟩
  · exact .inl h
  · by_cases hn : n = 0
    · exact .inl hn
    · exact .inr ⟨b, o, e, hnc, fun i hi => (hb.cell (lt_cell (hcell 0 (by omega)))).trans (hcell i hi)⟩

/-- LawS2266AExact returns true. -/
theorem exact_walk (con : Bool) (cls num off : Int) (a : Option Addr) (n c : Nat) (z : Nat → Nat) (hn : n ≤ maxLen) (w : World) (hg : Typ w) (ho : IsOcts w a n c z) :
    Calls Ybaf.prog 3 #[.bool con, .int .u8 cls, .int .u32 num, .slice a n c, .int .i64 off] w fun e w' => e = .returned (.bool true) ∧ Below w.heap.size w w' := by
  by_cases hl : 1024 < n
  · exact exact_long con cls num off a n c hl hn w
  · by_cases hcn : con = true ∨ n ≠ 1
    · exact exact_err con cls num off a n c (by omega) hcn w hg (fun W hb => inv_bad con cls num off a n c z hn W (ho.later hb) hcn)
    · have hc1 : con = false := by cases con <;> simp_all
      have hn1 : n = 1 := by omega
      subst hc1 hn1
      rcases ho.2 with h | ⟨b, o, rfl, hnc, hcell⟩
      · omega
      · exact exact_one cls num off b o c (z 0) (ho.1 0) hnc w (by simpa using hcell 0 (by omega))
end Go.Proofs.YbulkatxeFmt
