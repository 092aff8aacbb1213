/-
  LawS2270CConcat: the plain law, and the walk.
-/
import Derived.Test.YbulkatziEqual
import Derived.Test.YbulkatziShape
namespace Go.Proofs.Ybulkatzi
open Go.RowKit Go.Lib
set_option linter.unusedVariables false
set_option linter.unusedSimpArgs false

/-- Stamps as cells. -/
def sc (s : Nat → ByteArray) (t : Nat → Int) : Nat → List Value
  | 0 => []
  | k + 1 => sc s t k ++ [.string (s k), .int .i64 (t k)]
theorem sc_length (s : Nat → ByteArray) (t : Nat → Int) (n : Nat) : (sc s t n).length = n * 2 := by
  induction n with
  | zero => rfl
  | succ n ih => simp only [sc, List.length_append, ih]; simp; omega
theorem sc_get (s : Nat → ByteArray) (t : Nat → Int) (n i : Nat) (h : i < n) : (sc s t n)[i * 2]? = some (.string (s i)) ∧ (sc s t n)[i * 2 + 1]? = some (.int .i64 (t i)) := by
  induction n with
  | zero => omega
  | succ n ih =>
    simp only [sc]
    by_cases e : i = n
    · subst e
      rw [List.getElem?_append_right (by rw [sc_length]; omega), List.getElem?_append_right (by rw [sc_length]; omega), sc_length]
      simp
    · have := ih (by omega)
      rw [List.getElem?_append_left (by rw [sc_length]; omega), List.getElem?_append_left (by rw [sc_length]; omega)]
      exact this
theorem sc_one (s : Nat → ByteArray) (t : Nat → Int) (n : Nat) : ∀ u ∈ sc s t n, u.oneCell' = true := by
  induction n with
  | zero => intro u hu; cases hu
  | succ n ih =>
    intro u hu
    simp only [sc, List.mem_append, List.mem_cons, List.mem_nil_iff, or_false] at hu
    rcases hu with h | rfl | rfl
    · exact ih u h
    · rfl
    · rfl

def cat {α : Type} (n : Nat) (f g : Nat → α) (i : Nat) : α := if i < n then f i else g (i - n)
theorem cat_lt {α : Type} {n : Nat} {f g : Nat → α} {i : Nat} (h : i < n) : cat n f g i = f i := by simp [cat, h]
theorem cat_ge {α : Type} {n : Nat} {f g : Nat → α} (i : Nat) : cat n f g (n + i) = g i := by
  have : ¬ n + i < n := by omega
  simp only [cat, this, if_false]
  congr 1
  omega

theorem sc_congr {s s' : Nat → ByteArray} {t t' : Nat → Int} {n : Nat} (h : ∀ i, i < n → s i = s' i ∧ t i = t' i) : sc s t n = sc s' t' n := by
  induction n with
  | zero => rfl
  | succ n ih => simp only [sc]; rw [ih (fun i hi => h i (by omega)), (h n (by omega)).1, (h n (by omega)).2]
theorem bodyB_congr {s s' : Nat → ByteArray} {t t' : Nat → Int} {n : Nat} (h : ∀ i, i < n → s i = s' i ∧ t i = t' i) : bodyB s t n = bodyB s' t' n := by
  induction n with
  | zero => rfl
  | succ n ih => simp only [bodyB]; rw [ih (fun i hi => h i (by omega)), (h n (by omega)).1, (h n (by omega)).2]
theorem tot_congr {s s' : Nat → ByteArray} {n : Nat} (h : ∀ i, i < n → s i = s' i) : tot s n = tot s' n := by
  induction n with
  | zero => rfl
  | succ n ih => simp only [tot]; rw [ih (fun i hi => h i (by omega)), h n (by omega)]

theorem sc_cat (s s' : Nat → ByteArray) (t t' : Nat → Int) (n m : Nat) : sc (cat n s s') (cat n t t') (n + m) = sc s t n ++ sc s' t' m := by
  induction m with
  | zero => simp only [Nat.add_zero, sc, List.append_nil]; exact sc_congr fun i hi => ⟨cat_lt hi, cat_lt hi⟩
  | succ m ih =>
    show sc _ _ ((n + m) + 1) = _
    simp only [sc]
    rw [ih, cat_ge, cat_ge, List.append_assoc]
theorem bodyB_cat (s s' : Nat → ByteArray) (t t' : Nat → Int) (n m : Nat) : bodyB (cat n s s') (cat n t t') (n + m) = bodyB s t n ++ bodyB s' t' m := by
  induction m with
  | zero => simp only [Nat.add_zero, bodyB, List.append_nil]; exact bodyB_congr fun i hi => ⟨cat_lt hi, cat_lt hi⟩
  | succ m ih =>
    show bodyB _ _ ((n + m) + 1) = _
    simp only [bodyB]
    rw [ih, cat_ge, cat_ge, List.append_assoc]
theorem tot_cat (s s' : Nat → ByteArray) (n m : Nat) : tot (cat n s s') (n + m) = tot s n + tot s' m := by
  induction m with
  | zero => simp only [Nat.add_zero, tot]; exact tot_congr fun i hi => cat_lt hi
  | succ m ih =>
    show tot _ ((n + m) + 1) = _
    simp only [tot]
    rw [ih, cat_ge]
    omega

theorem info25' : (Yba.prog.info? 25).map (fun i => (i.size, i.bytes, i.zero.isSome)) = some (2, 24, true) := by kernel_rfl
theorem info25 : ∃ i z, Yba.prog.info? 25 = some i ∧ i.size = 2 ∧ i.bytes = 24 ∧ i.zero = some z := by
  obtain ⟨i, h1, h2⟩ := Option.map_eq_some_iff.1 info25'
  simp only [Prod.mk.injEq] at h2
  obtain ⟨z, hz⟩ := Option.isSome_iff_exists.1 h2.2.2
  exact ⟨i, z, h1, h2.1, h2.2.1, hz⟩

theorem grown_below {w w' : World} {row : Option Nat} {B : Nat} (h : w.grownBy w' row) (hr : ∀ k, row = some k → B ≤ k) (hB : B ≤ w.heap.size) : Below B w w' :=
  ⟨h.os, h.tape, h.output, h.size, fun k hk => h.block k (Nat.lt_of_lt_of_le hk hB) (fun e => by have := hr k e.symm; omega)⟩

/-- The cells of a slice of stamps, as an append wants them. -/
theorem IsStamps.news {w : World} {a : Option Addr} {n c : Nat} {s : Nat → ByteArray} {t : Nat → Int} (h : IsStamps w a n c s t) : ∀ ad, a = some ad → ∀ j u, (sc s t n)[j]? = some u → w.cell? (ad.add j) = some u := by
  intro ad ha j u hj
  have hjl : j < n * 2 := by have := (List.getElem?_eq_some_iff.1 hj).1; rwa [sc_length] at this
  rcases h.2 with h0 | ⟨b, o, e, hnc, hcell⟩
  · omega
  · rw [ha] at e
    cases e
    rw [Addr.add_lit]
    have h2 : j = j / 2 * 2 ∨ j = j / 2 * 2 + 1 := by omega
    have hi : j / 2 < n := by omega
    have g := sc_get s t n (j / 2) hi
    rcases h2 with e | e
    · rw [e] at hj ⊢
      rw [g.1] at hj
      rw [← hj]
      exact (hcell (j / 2) hi).1
    · rw [e] at hj ⊢
      rw [g.2] at hj
      rw [← hj, ← Nat.add_assoc]
      exact (hcell (j / 2) hi).2

/-- What the call itself has laid. -/
theorem IsStamps.own {w : World} {g N : Nat} {s : Nat → ByteArray} {t : Nat → Int} (h : w.ownsRow 0 25 2 (.slice (some ⟨g, 0, none⟩) N N) N (sc s t N)) : IsStamps w (some ⟨g, 0, none⟩) N N s t := by
  rcases h.2 with ⟨e, _⟩ | ⟨g', cap, cur, hv, _, hh, hnc, hcm, hcs, htake⟩
  · cases e
  · cases hv
    refine ⟨hcm, .inr ⟨g, 0, rfl, Nat.le_refl _, fun i hi => ?_⟩⟩
    have gt := sc_get s t N i hi
    have hc : ∀ j, w.cell? ⟨g, 0 + j, none⟩ = cur[j]? := fun j => by simp only [World.cell?, hh, Nat.zero_add]; rfl
    have hq : ∀ j, j < N * 2 → cur[j]? = (sc s t N)[j]? := fun j hj => by
      rw [← htake, List.getElem?_take, if_pos hj]
      simp
    rw [hc, Nat.add_assoc, hc, hq _ (by omega), hq _ (by omega)]
    exact gt
end Go.Proofs.Ybulkatzi
