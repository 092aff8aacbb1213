/-
  What the walks of (*Index).key and keyOf speak of.
-/
import Derived.Test.YbulkatzwBase
import Derived.Laws.BitsAllLaws
import Derived.Deep.RegionHeld3
namespace Go.Proofs.Ybulkatzw
open Go.RowKit Go.Lib
set_option linter.unusedVariables false
set_option linter.unusedSimpArgs false
set_option maxRecDepth 100000

theorem ta2 (x : Int) (w : World) : (Instr.typeAssert (.iface 2 (.int .i64 x)) 20 2 false).run Yba.prog w = .ok (.int .i64 x) w := by kernel_rfl
theorem ta24 (x : Int) (w : World) : (Instr.typeAssert (.iface 24 (.int .u64 x)) 20 24 false).run Yba.prog w = .ok (.int .u64 x) w := by kernel_rfl
theorem ta9 (s : ByteArray) (w : World) : (Instr.typeAssert (.iface 9 (.string s)) 20 9 false).run Yba.prog w = .ok (.string s) w := by kernel_rfl
theorem ta23 (a : Option Addr) (n c : Nat) (w : World) : (Instr.typeAssert (.iface 23 (.slice a n c)) 20 23 false).run Yba.prog w = .ok (.slice a n c) w := by kernel_rfl
theorem sh7 (w : World) : (Op.shift .shl .u64 1 .i64 7).run Yba.prog w = .ok (.int .u64 128) w := by kernel_rfl
theorem sh15 (w : World) : (Op.shift .shl .u64 1 .i64 15).run Yba.prog w = .ok (.int .u64 32768) w := by kernel_rfl
theorem sh31 (w : World) : (Op.shift .shl .u64 1 .i64 31).run Yba.prog w = .ok (.int .u64 2147483648) w := by kernel_rfl
theorem sh63 (w : World) : (Op.shift .shl .u64 1 .i64 63).run Yba.prog w = .ok (.int .u64 9223372036854775808) w := by kernel_rfl
theorem wr8 : IntKind.i64.wrap 8 = 8 := by decide
theorem wr7 : IntKind.i64.wrap 7 = 7 := by decide
theorem wr16 : IntKind.i64.wrap 16 = 16 := by decide
theorem wr15 : IntKind.i64.wrap 15 = 15 := by decide
theorem wr32 : IntKind.i64.wrap 32 = 32 := by decide
theorem wr31 : IntKind.i64.wrap 31 = 31 := by decide
theorem wr64 : IntKind.i64.wrap 64 = 64 := by decide
theorem wr63 : IntKind.i64.wrap 63 = 63 := by decide

/-- A row of bytes in the world. -/
def Row (w : World) (b o : Nat) (l : List UInt8) : Prop := ∀ j (hj : j < l.length), w.cell? ⟨b, o + j, none⟩ = some (cellOf l[j])
def strOf (s : ByteArray) : List UInt8 := s.data.toList
def u64of (x : Int) : Nat := (x % 18446744073709551616).toNat
theorem u64of_lt (x : Int) : u64of x < 18446744073709551616 := by unfold u64of; omega
theorem u64of_wrap (x : Int) : IntKind.u64.wrap x = (u64of x : Int) := by
  have : IntKind.u64.wrap x = x % 18446744073709551616 := by simp [IntKind.wrap, IntKind.bits, IntKind.signed]
  rw [this]; unfold u64of; omega

/-- An int64 with one bit turned. -/
def xr (x : Int) (c : Nat) : Nat := u64of x ^^^ c
theorem xr_lt (x : Int) {c : Nat} (h : c < 18446744073709551616) : xr x c < 18446744073709551616 := by
  have := Nat.xor_lt_two_pow (n := 64) (x := u64of x) (y := c) (u64of_lt x) h
  exact this
theorem xr_bits (x : Int) (c : Nat) (h : c < 18446744073709551616) : bits .xor .u64 (IntKind.u64.wrap x) (IntKind.u64.wrap (c : Int)) = (xr x c : Int) := by
  have e : IntKind.u64.wrap (c : Int) = (c : Int) := by simp [IntKind.wrap, IntKind.bits, IntKind.signed]; omega
  rw [u64of_wrap, e]
  exact u64_xor_nat _ _ (u64of_lt x) h
def top (sz c : Nat) : Prop := sz = 1 ∧ c = 128 ∨ sz = 2 ∧ c = 32768 ∨ sz = 4 ∧ c = 2147483648 ∨ sz = 8 ∧ c = 9223372036854775808
def FInt (sz : Nat) (v : Value) (part : List UInt8) : Prop := ∃ (x : Int) (c : Nat), top sz c ∧ v = .iface 2 (.int .i64 x) ∧ part = beN (xr x c) sz
def FUint (sz : Nat) (v : Value) (part : List UInt8) : Prop := sz ≤ 8 ∧ ∃ u : Nat, u < 18446744073709551616 ∧ v = .iface 24 (.int .u64 (u : Int)) ∧ part = beN u sz
def FChar (v : Value) (part : List UInt8) : Prop := ∃ s : ByteArray, v = .iface 9 (.string s) ∧ part = strOf s
def FStr (sz : Nat) (v : Value) (part : List UInt8) : Prop := ∃ s : ByteArray, s.size ≤ sz ∧ sz ≤ 16 ∧ v = .iface 9 (.string s) ∧ part = strOf s ++ List.replicate (sz - s.size) 0 ++ beN s.size 2
def FBytes (w : World) (v : Value) (part : List UInt8) : Prop := ∃ a c, v = .iface 23 (.slice a part.length c) ∧ (a = none → part = [] ∧ c = 0) ∧ (∀ ad, a = some ad → ∀ j (hj : j < part.length), w.cell? (ad.add j) = some (cellOf part[j]))
def FieldOk (w : World) (ty sz : Nat) (v : Value) (part : List UInt8) : Prop :=
  ty = 1 ∧ FInt sz v part ∨ ty = 2 ∧ FUint sz v part ∨ ty = 4 ∧ FChar v part ∨ ty = 5 ∧ FStr sz v part ∨ ty = 6 ∧ FBytes w v part

structure IxOk (w : World) (X : Nat) (po : Option Addr) (N pc : Nat) (p : Nat → Nat) (nf : Nat) (ty sz : Nat → Nat) : Prop where
  ex : ∃ T D FS : Nat, w.cell? ⟨X, 0, none⟩ = some (.pointer (some ⟨T, 0, none⟩)) ∧ w.cell? ⟨X, 3, none⟩ = some (.slice po N pc) ∧ w.cell? ⟨T, 2, none⟩ = some (.pointer (some ⟨D, 0, none⟩)) ∧
    w.cell? ⟨D, 0, none⟩ = some (.slice (some ⟨FS, 0, none⟩) nf nf) ∧
    ∀ i, i < nf → w.cell? ⟨FS, i * 3, none⟩ = some (.string ⟨#[]⟩) ∧ w.cell? ⟨FS, i * 3 + 1, none⟩ = some (.int .u8 (ty i : Int)) ∧ w.cell? ⟨FS, i * 3 + 2, none⟩ = some (.int .i64 (sz i : Int))
  pos : N = 0 ∨ ∃ P, po = some ⟨P, 0, none⟩ ∧ N ≤ pc ∧ ∀ j, j < N → w.cell? ⟨P, j, none⟩ = some (.int .i64 (p j : Int)) ∧ p j < nf
  small : N ≤ 256 ∧ nf ≤ 256

def flat (part : Nat → List UInt8) : Nat → List UInt8
  | 0 => []
  | k + 1 => flat part k ++ part k
theorem flat_le {part : Nat → List UInt8} {N : Nat} (h : ∀ j, j < N → (part j).length ≤ 2048) : ∀ k, k ≤ N → (flat part k).length ≤ 2048 * k := by
  intro k
  induction k with
  | zero => intro _; simp [flat]
  | succ k ih => intro hk; have := ih (by omega); have := h k (by omega); simp only [flat, List.length_append]; omega

theorem cell_block {w : World} {b j : Nat} {cs : Array Value} {t : TypeId} {v : Value} (h : w.heap[b]? = some (.cells cs t (0, 0))) (hv : cs[j]? = some v := by rfl) : w.cell? ⟨b, j, none⟩ = some v := by
  simp only [World.cell?, h]; exact hv

end Go.Proofs.Ybulkatzw
