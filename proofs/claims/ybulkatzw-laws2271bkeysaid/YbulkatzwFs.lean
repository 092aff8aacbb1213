/-
  What the walk of LawS2271BKey speaks of.
-/
import Derived.Test.YbulkatzwCalls
import Derived.Test.YbulkatzwKeyC
import Derived.Test.YbulkatzwKeyOf
namespace Go.Proofs.Ybulkatzw
open Go.RowKit Go.Lib
set_option linter.unusedVariables false
set_option linter.unusedSimpArgs false
set_option maxRecDepth 100000

/-- A field as it came in. -/
structure Fd where
  kind : Nat
  size : Nat
  I : Int
  U : Nat
  S : ByteArray
  B : List UInt8
  ba : Option Addr
  bc : Nat

def FCells (w : World) (b o : Nat) (f : Fd) : Prop :=
  w.cell? ⟨b, o, none⟩ = some (.int .u8 (f.kind : Int)) ∧ w.cell? ⟨b, o + 1, none⟩ = some (.int .u8 (f.size : Int)) ∧ w.cell? ⟨b, o + 2, none⟩ = some (.int .i64 f.I) ∧
  w.cell? ⟨b, o + 3, none⟩ = some (.int .u64 (f.U : Int)) ∧ w.cell? ⟨b, o + 4, none⟩ = some (.string f.S) ∧ w.cell? ⟨b, o + 5, none⟩ = some (.slice f.ba f.B.length f.bc)
def BOk (w : World) (f : Fd) : Prop := (f.ba = none → f.B = [] ∧ f.bc = 0) ∧ ∀ ad, f.ba = some ad → ∀ j (hj : j < f.B.length), w.cell? (ad.add j) = some (cellOf f.B[j])
def Small (f : Fd) : Prop := f.kind < 256 ∧ f.size < 256 ∧ f.U < 18446744073709551616 ∧ f.S.size ≤ maxLen ∧ f.B.length ≤ maxLen
structure IsFields (w : World) (fo : Option Addr) (n fc : Nat) (F : Nat → Fd) : Prop where
  ok : n = 0 ∨ ∃ b o, fo = some ⟨b, o, none⟩ ∧ n ≤ fc ∧ ∀ i, i < n → FCells w b (o + i * 6) (F i) ∧ BOk w (F i) ∧ Small (F i)
  len : n ≤ maxLen
structure IsPicks (w : World) (po : Option Addr) (m pc : Nat) (g : Nat → Nat) : Prop where
  ok : m = 0 ∨ ∃ b o, po = some ⟨b, o, none⟩ ∧ m ≤ pc ∧ ∀ j, j < m → w.cell? ⟨b, o + j, none⟩ = some (.int .u8 (g j : Int)) ∧ g j < 256
  len : m ≤ maxLen

def tyOf (f : Fd) : Nat := if f.kind % 5 = 0 then 1 else if f.kind % 5 = 1 then 2 else if f.kind % 5 = 2 then 4 else if f.kind % 5 = 3 then 5 else 6
def szF (f : Fd) : Nat := if f.kind % 5 = 0 then szOf f.size else if f.kind % 5 = 1 then szOf f.size else if f.kind % 5 = 2 then f.S.size else if f.kind % 5 = 3 then 1 + f.size % 16 else f.B.length
def topOf (n : Nat) : Nat := if n = 1 then 128 else if n = 2 then 32768 else if n = 4 then 2147483648 else 9223372036854775808
/-- A string cut to n bytes. -/
def cutS (s : ByteArray) (n : Nat) : ByteArray := if n < s.size then s.extract 0 n else s
def strPart (s : ByteArray) (n : Nat) : List UInt8 := strOf s ++ List.replicate (n - s.size) 0 ++ beN s.size 2
def partF (f : Fd) : List UInt8 :=
  if f.kind % 5 = 0 then beN (xr f.I (topOf (szOf f.size))) (szOf f.size) else if f.kind % 5 = 1 then beN f.U (szOf f.size) else if f.kind % 5 = 2 then strOf f.S
  else if f.kind % 5 = 3 then strPart (cutS f.S (1 + f.size % 16)) (1 + f.size % 16) else f.B
/-- A slice of bytes that the call laid, to be read. -/
def PartOk (w : World) (B : Nat) (v : Value) (l : List UInt8) : Prop := ∃ a c, v = .slice a l.length c ∧ (a = none → l = [] ∧ c = 0) ∧ ∀ ad, a = some ad → ∃ K, ad = ⟨K, 0, none⟩ ∧ B ≤ K ∧ K < w.heap.size ∧ ∀ j (hj : j < l.length), w.cell? ⟨K, j, none⟩ = some (cellOf l[j])
/-- The value that a record keeps of a field. -/
def ValOk (w : World) (B : Nat) (f : Fd) (v : Value) : Prop :=
  if f.kind % 5 = 0 then v = .iface 2 (.int .i64 f.I) else if f.kind % 5 = 1 then v = .iface 24 (.int .u64 (f.U : Int)) else if f.kind % 5 = 2 then v = .iface 9 (.string f.S)
  else if f.kind % 5 = 3 then v = .iface 9 (.string (cutS f.S (1 + f.size % 16))) else ∃ u, v = .iface 23 u ∧ PartOk w B u f.B

theorem cutS_le (s : ByteArray) (n : Nat) : (cutS s n).size ≤ n := by
  unfold cutS
  split
  · simp [ByteArray.size_extract]; omega
  · omega
theorem IxOk.later {w W : World} {X : Nat} {po : Option Addr} {N pc : Nat} {p : Nat → Nat} {nf : Nat} {ty sz : Nat → Nat} (h : IxOk w X po N pc p nf ty sz) (hb : Below w.heap.size w W) : IxOk W X po N pc p nf ty sz := by
  obtain ⟨⟨T, D, FS, x0, x3, t2, d0, fs⟩, hp, hs⟩ := h
  have go : ∀ {b j : Nat} {v : Value}, w.cell? ⟨b, j, none⟩ = some v → W.cell? ⟨b, j, none⟩ = some v := fun h => (hb.cell (lt_of_cell h)).trans h
  refine ⟨⟨T, D, FS, go x0, go x3, go t2, go d0, fun i hi => ⟨go (fs i hi).1, go (fs i hi).2.1, go (fs i hi).2.2⟩⟩, ?_, hs⟩
  rcases hp with h | ⟨P, e, hn, hc⟩
  · exact .inl h
  · exact .inr ⟨P, e, hn, fun j hj => ⟨go (hc j hj).1, (hc j hj).2⟩⟩

theorem Own.later {w w' : World} {B : Nat} {v : Value} {l : List UInt8} (h : Own w B v l) (hb : Below w.heap.size w w') : Own w' B v l := by
  refine ⟨h.1, ?_⟩
  rcases h.2 with h | ⟨g, cap, cur, e, hg, hh, r⟩
  · exact .inl h
  · exact .inr ⟨g, cap, cur, e, hg, (hb.block g (Array.getElem?_eq_some_iff.1 hh).1).trans hh, r⟩

theorem Own.cells {w : World} {B c : Nat} {a : Option Addr} {l : List UInt8} {n : Nat} (h : Own w B (.slice a n c) l) : (∀ ad, a = some ad → ∀ j x, l[j]? = some x → w.cell? (ad.add j) = some (cellOf x)) ∧ (a = none → l = []) ∧ n = l.length := by
  have hl := h.1
  rcases h.2 with ⟨e, h0⟩ | ⟨g, cap, cur, e, _, hh, hn, hc, hs, ht⟩
  · cases e
    exact ⟨fun ad e => (by cases e), fun _ => List.eq_nil_of_length_eq_zero h0, h0.symm⟩
  · cases e
    refine ⟨fun ad e j x hj => ?_, fun e => (by cases e), rfl⟩
    cases e
    have hjl : j < l.length := (List.getElem?_eq_some_iff.1 hj).1
    rw [Addr.add_lit, Nat.zero_add]
    have e1 : w.cell? ⟨g, j, none⟩ = cur[j]? := by simp only [World.cell?, hh]; rfl
    have e2 : cur.toList[j]? = (cur.toList.take (l.length * 1))[j]? := by rw [List.getElem?_take, if_pos (by omega)]
    rw [e1, ← Array.getElem?_toList, e2, ht, List.getElem?_map, hj]
    rfl

theorem lo_xor (u c k : Nat) : lo ((u ^^^ c) / 256 ^ k) = lo (u / 256 ^ k) ^^^ lo (c / 256 ^ k) := by
  have h256 : (256 : Nat) ^ k = 2 ^ (8 * k) := by rw [Nat.pow_mul]
  apply UInt8.toNat_inj.1
  rw [UInt8.toNat_xor, lo_nat, lo_nat, lo_nat, h256, ← Nat.shiftRight_eq_div_pow, ← Nat.shiftRight_eq_div_pow, ← Nat.shiftRight_eq_div_pow, Nat.shiftRight_xor_distrib]
  exact Nat.xor_mod_two_pow (n := 8)
/-- The first byte's greatest bit turned. -/
def flip1 : List UInt8 → List UInt8
  | [] => []
  | b :: r => (b ^^^ 128) :: r
theorem be_flip (u n : Nat) (h : n = 1 ∨ n = 2 ∨ n = 4 ∨ n = 8) : beN (u ^^^ topOf n) n = flip1 (beN u n) := by
  rcases h with rfl | rfl | rfl | rfl
  · have c0 : lo (128 / 256 ^ 0) = 128 := by decide
    simp only [beN, flip1, topOf, if_true, lo_xor, c0]
  · have c1 : lo (32768 / 256 ^ 1) = 128 := by decide
    have c0 : lo (32768 / 256 ^ 0) = 0 := by decide
    simp only [beN, flip1, topOf, Nat.reduceEqDiff, if_true, if_false, lo_xor, c0, c1, UInt8.xor_zero]
  · have c3 : lo (2147483648 / 256 ^ 3) = 128 := by decide
    have c2 : lo (2147483648 / 256 ^ 2) = 0 := by decide
    have c1 : lo (2147483648 / 256 ^ 1) = 0 := by decide
    have c0 : lo (2147483648 / 256 ^ 0) = 0 := by decide
    simp only [beN, flip1, topOf, Nat.reduceEqDiff, if_true, if_false, lo_xor, c0, c1, c2, c3, UInt8.xor_zero]
  · have c7 : lo (9223372036854775808 / 256 ^ 7) = 128 := by decide
    have c6 : lo (9223372036854775808 / 256 ^ 6) = 0 := by decide
    have c5 : lo (9223372036854775808 / 256 ^ 5) = 0 := by decide
    have c4 : lo (9223372036854775808 / 256 ^ 4) = 0 := by decide
    have c3 : lo (9223372036854775808 / 256 ^ 3) = 0 := by decide
    have c2 : lo (9223372036854775808 / 256 ^ 2) = 0 := by decide
    have c1 : lo (9223372036854775808 / 256 ^ 1) = 0 := by decide
    have c0 : lo (9223372036854775808 / 256 ^ 0) = 0 := by decide
    simp only [beN, flip1, topOf, Nat.reduceEqDiff, if_true, if_false, lo_xor, c0, c1, c2, c3, c4, c5, c6, c7, UInt8.xor_zero]
theorem top_topOf {n : Nat} (h : n = 1 ∨ n = 2 ∨ n = 4 ∨ n = 8) : top n (topOf n) := by
  rcases h with rfl | rfl | rfl | rfl
  · exact .inl ⟨rfl, rfl⟩
  · exact .inr (.inl ⟨rfl, rfl⟩)
  · exact .inr (.inr (.inl ⟨rfl, rfl⟩))
  · exact .inr (.inr (.inr ⟨rfl, rfl⟩))

theorem fieldOk {w : World} {B : Nat} {f : Fd} {v : Value} (hs : Small f) (hv : ValOk w B f v) : FieldOk w (tyOf f) (szF f) v (partF f) := by
  have h5 : f.kind % 5 = 0 ∨ f.kind % 5 = 1 ∨ f.kind % 5 = 2 ∨ f.kind % 5 = 3 ∨ f.kind % 5 = 4 := by omega
  unfold ValOk at hv
  unfold FieldOk tyOf szF partF
  rcases h5 with h | h | h | h | h <;> simp only [h, Nat.reduceEqDiff, if_true, if_false] at hv ⊢
  · exact .inl ⟨trivial, f.I, _, top_topOf (szOf_cases _), hv, rfl⟩
  · refine .inr (.inl ⟨trivial, ?_, f.U, hs.2.2.1, hv, rfl⟩)
    have := szOf_cases f.size
    omega
  · exact .inr (.inr (.inl ⟨trivial, f.S, hv, rfl⟩))
  · exact .inr (.inr (.inr (.inl ⟨trivial, _, cutS_le _ _, by omega, hv, rfl⟩)))
  · obtain ⟨u, rfl, ho⟩ := hv
    refine .inr (.inr (.inr (.inr ⟨trivial, ?_⟩)))
    obtain ⟨a, c, rfl, h1, h2⟩ := ho
    refine ⟨a, c, rfl, h1, fun ad e j hj => ?_⟩
    obtain ⟨K, rfl, _, _, h3⟩ := h2 ad e
    rw [Addr.add_lit, Nat.zero_add]
    exact h3 j hj
theorem Own.part {w : World} {B : Nat} {v : Value} {l : List UInt8} (h : Own w B v l) : PartOk w B v l := by
  rcases h.2 with ⟨rfl, h0⟩ | ⟨g, cap, cur, rfl, hg, hh, hn, hc, hs, ht⟩
  · exact ⟨none, 0, by rw [h0], fun _ => ⟨List.eq_nil_of_length_eq_zero h0, rfl⟩, fun ad e => by cases e⟩
  · refine ⟨_, _, rfl, (fun e => by cases e), fun ad e => ?_⟩
    cases e
    refine ⟨g, rfl, hg, (Array.getElem?_eq_some_iff.1 hh).1, fun j hj => ?_⟩
    have := h.cells.1 ⟨g, 0, none⟩ rfl j _ (List.getElem?_eq_getElem hj)
    rwa [Addr.add_lit, Nat.zero_add] at this
theorem part_le {f : Fd} (hS : f.S.size ≤ 1024) (hB : f.B.length ≤ 1024) : (partF f).length ≤ 2048 := by
  unfold partF
  have := szOf_cases f.size
  split
  · rw [beN_length]; omega
  · split
    · rw [beN_length]; omega
    · split
      · rw [strOf_length]; omega
      · split
        · have := cutS_le f.S (1 + f.size % 16)
          simp only [strPart, List.length_append, strOf_length, List.length_replicate, beN_length]
          omega
        · omega
end Go.Proofs.Ybulkatzw
