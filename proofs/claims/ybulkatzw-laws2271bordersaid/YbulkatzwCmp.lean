/-
  bytes.Compare; the order of the keys.
-/
import Derived.Test.YbulkatzwDefs
import Derived.Lib.Bytealg
import Derived.Lib.BytesEntry
import Derived.Laws.Externs
namespace Go.Proofs.Ybulkatzw
open Go.RowKit Go.Lib
set_option linter.unusedVariables false
set_option linter.unusedSimpArgs false
set_option maxRecDepth 100000

theorem bytesOf_nat (l : List UInt8) : bytesOf (l.map fun b => (b.toNat : Int)) = l := by
  unfold bytesOf
  rw [List.map_map]
  conv => rhs; rw [← List.map_id l]
  apply List.map_congr_left
  intro b _
  simp

theorem run_bytesOf {P : Program} (w : World) (a : Option Addr) (c : Nat) (l : List UInt8) (h : ∀ ad, a = some ad → ∀ j x, l[j]? = some x → w.cell? (ad.add j) = some (cellOf x)) (hn : a = none → l = []) :
    (Extern.Bytes.bytesOf (.slice a l.length c)).run P w = .ok ⟨l.toArray⟩ w := by
  cases a with
  | none => rw [hn rfl]; simp [Extern.Bytes.bytesOf]; rfl
  | some ad =>
    have := run_loadBytesX (P := P) w (l.map fun b => (b.toNat : Int)) ad .empty (fun j x hj => by
      rw [List.getElem?_map] at hj
      obtain ⟨b, hb, rfl⟩ := Option.map_eq_some_iff.1 hj
      exact h ad rfl j b hb)
    rw [List.length_map, bytesOf_nat] at this
    simp only [Extern.Bytes.bytesOf]
    rw [this]
    have e : ByteArray.empty.data ++ l.toArray = l.toArray := by show (#[] : Array UInt8) ++ l.toArray = l.toArray; simp
    rw [e]

theorem run_compare {P : Program} (w : World) (a a' : Option Addr) (c c' : Nat) (l l' : List UInt8) (h : ∀ ad, a = some ad → ∀ j x, l[j]? = some x → w.cell? (ad.add j) = some (cellOf x)) (h' : ∀ ad, a' = some ad → ∀ j x, l'[j]? = some x → w.cell? (ad.add j) = some (cellOf x))
    (hn : a = none → l = []) (hn' : a' = none → l' = []) :
    (Extern.BytealgCompare.compare #[.slice a l.length c, .slice a' l'.length c']).run P w = .ok (.int .i64 (compareBytes l l')) w := by
  change Sem.run P (do pure (goInt (Extern.BytealgCompare.cmp (← Extern.Bytes.bytesOf (.slice a l.length c)) (← Extern.Bytes.bytesOf (.slice a' l'.length c'))))) w = _
  simp only [Sem.run_bind, Sem.run_pure, run_bytesOf w a c l h hn, run_bytesOf w a' c' l' h' hn', Result.andThen]
  rw [cmp_eq]
  rfl

set_option maxHeartbeats 400000 in
theorem cmpC (a a' : Option Addr) (c c' : Nat) (l l' : List UInt8) (w : World) (h : ∀ ad, a = some ad → ∀ j x, l[j]? = some x → w.cell? (ad.add j) = some (cellOf x)) (h' : ∀ ad, a' = some ad → ∀ j x, l'[j]? = some x → w.cell? (ad.add j) = some (cellOf x))
    (hn : a = none → l = []) (hn' : a' = none → l' = []) :
    Calls Yba.prog 9 #[.slice a l.length c, .slice a' l'.length c'] w fun e w' => e = .returned (.int .i64 (compareBytes l l')) ∧ w' = w := by
  have hr := run_compare (P := Yba.prog) w a a' c c' l l' h h' hn hn'
  clear h h' hn hn'
  go_enter Yba.func9, Yba.ntmps9
  go_wp2
  rw [run_callFunc_extern Yba.func11 (by kernel_rfl) (by kernel_rfl) (by kernel_rfl) (e := Extern.BytealgCompare.compare) (by kernel_rfl), hr]
  simp only [Result.andThen]
  rw [Oper.upon_value]
  go_wp2
  go_ret
  exact ⟨rfl, rfl⟩

theorem lo_lt (u v : Nat) : lo u < lo v ↔ u % 256 < v % 256 := by rw [UInt8.lt_iff_toNat_lt, lo_nat, lo_nat]
theorem cmp_be (u v : Nat) : ∀ n, compareBytes (beN u n) (beN v n) = if u % 256 ^ n < v % 256 ^ n then -1 else if v % 256 ^ n < u % 256 ^ n then 1 else 0 := by
  intro n
  induction n with
  | zero => simp [beN, compareBytes, Nat.mod_one]
  | succ n ih =>
    have hu : u % 256 ^ (n + 1) = 256 ^ n * (u / 256 ^ n % 256) + u % 256 ^ n := by rw [Nat.pow_succ, Nat.mod_mul]; omega
    have hv : v % 256 ^ (n + 1) = 256 ^ n * (v / 256 ^ n % 256) + v % 256 ^ n := by rw [Nat.pow_succ, Nat.mod_mul]; omega
    have lu : u % 256 ^ n < 256 ^ n := Nat.mod_lt _ (Nat.pow_pos (by decide))
    have lv : v % 256 ^ n < 256 ^ n := Nat.mod_lt _ (Nat.pow_pos (by decide))
    simp only [beN, compareBytes, lo_lt, ih]
    rw [hu, hv]
    generalize 256 ^ n = p at *
    generalize u / p % 256 = x at *
    generalize v / p % 256 = y at *
    generalize u % p = r at *
    generalize v % p = q at *
    by_cases h1 : x < y
    · have : p * (x + 1) ≤ p * y := Nat.mul_le_mul_left _ h1
      rw [Nat.mul_add] at this
      rw [if_pos h1, if_pos (by omega)]
    · by_cases h2 : y < x
      · have : p * (y + 1) ≤ p * x := Nat.mul_le_mul_left _ h2
        rw [Nat.mul_add] at this
        rw [if_neg h1, if_pos h2, if_neg (by omega), if_pos (by omega)]
      · obtain rfl : x = y := by omega
        rw [if_neg h1, if_neg h2]
        simp only [Nat.add_lt_add_iff_left]

theorem xor_low {r : Nat} (h : r < 9223372036854775808) : r ^^^ 9223372036854775808 = r + 9223372036854775808 := by
  have hp : (9223372036854775808 : Nat) = 2 ^ 63 := by decide
  rw [hp] at h ⊢
  have e : r + 2 ^ 63 = 2 ^ 63 ||| r := by
    have := Nat.two_pow_add_eq_or_of_lt h 1
    rw [Nat.mul_one] at this
    rw [Nat.add_comm, this]
  rw [e]
  apply Nat.eq_of_testBit_eq
  intro i
  rw [Nat.testBit_xor, Nat.testBit_or, Nat.testBit_two_pow]
  by_cases hi : 63 = i
  · subst hi
    rw [Nat.testBit_lt_two_pow h]
    simp
  · simp [hi]

/-- An int64 with its sign bit turned is the number behind 2^63. -/
theorem xr_top (x : Int) (h1 : -9223372036854775808 ≤ x) (h2 : x ≤ 9223372036854775807) : (xr x 9223372036854775808 : Int) = x + 9223372036854775808 := by
  have hu : u64of x < 18446744073709551616 := u64of_lt x
  have hx : (u64of x : Int) = x % 18446744073709551616 := by unfold u64of; omega
  have e : xr x 9223372036854775808 = (u64of x + 9223372036854775808) % 18446744073709551616 := by
    unfold xr
    generalize u64of x = u at *
    by_cases h : u < 9223372036854775808
    · rw [xor_low h]; omega
    · have e1 : u = (u - 9223372036854775808) + 9223372036854775808 := by omega
      have e2 := xor_low (r := u - 9223372036854775808) (by omega)
      rw [e1, ← e2, Nat.xor_assoc, Nat.xor_self, Nat.xor_zero, e2]
      omega
  omega
end Go.Proofs.Ybulkatzw
