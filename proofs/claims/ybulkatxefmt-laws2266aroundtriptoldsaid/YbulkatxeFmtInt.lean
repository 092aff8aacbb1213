/-
  (Element).Int on contents octets in their fewest: it reads a value; from two octets on that value lies outside -128 .. 127.
-/
import Derived.Test.YbulkatxeFmtErrs2
namespace Go.Proofs.YbulkatxeFmt
open Go.RowKit Go.Extern.Stop Go.Stop Go.Extern
set_option linter.unusedVariables false
set_option linter.unusedSimpArgs false
set_option maxRecDepth 100000

def sgn (z : Nat) : Int := if z < 128 then (z : Int) else (z : Int) - 256
def bd : Nat → Int
  | 0 => 128
  | k + 1 => 256 * bd k

theorem sgn_eq (z : Nat) (h : z < 256) : wrap64 (IntKind.i8.wrap (z : Int)) = sgn z := by
  unfold wrap64 sgn
  have e : IntKind.i8.wrap (z : Int) = ((z : Int) + 128) % 256 - 128 := by simp [IntKind.wrap, IntKind.bits, IntKind.signed]; split <;> omega
  rw [e]
  split <;> omega
theorem sgn_bd (z : Nat) (h : z < 256) : -bd 0 ≤ sgn z ∧ sgn z < bd 0 := by
  unfold sgn bd
  split <;> omega
theorem bd_le (k : Nat) (h : k ≤ 6) : bd k ≤ 36028797018963968 := by
  match k, h with
  | 0, _ => decide
  | 1, _ => decide
  | 2, _ => decide
  | 3, _ => decide
  | 4, _ => decide
  | 5, _ => decide
  | 6, _ => decide

theorem or_i64 (v o : Int) (h1 : -36028797018963968 ≤ v) (h2 : v < 36028797018963968) (h3 : 0 ≤ o) (h4 : o < 256) : bits .or .i64 (v * 256) o = v * 256 + o := by
  have hand : BitVec.ofInt 64 (v * 256) &&& BitVec.ofInt 64 o = 0#64 := by
    have e1 : BitVec.ofInt 64 (v * 256) = (BitVec.ofInt 64 v) <<< 8 := by
      rw [BitVec.ofInt_mul, BitVec.shiftLeft_eq_mul_twoPow]
      congr 1
    obtain ⟨O, rfl⟩ := Int.eq_ofNat_of_zero_le h3
    have e2 : BitVec.ofInt 64 (O : Int) = BitVec.ofNat 64 O := by simp
    rw [e1, e2]
    apply BitVec.eq_of_getLsbD_eq
    intro i hi
    simp only [BitVec.getLsbD_and, BitVec.getLsbD_shiftLeft, BitVec.getLsbD_ofNat, BitVec.getLsbD_zero]
    by_cases h8 : i < 8
    · simp [h8]
    · have : O.testBit i = false := Nat.testBit_lt_two_pow (Nat.lt_of_lt_of_le (show O < 2 ^ 8 by omega) (Nat.pow_le_pow_right (by omega) (by omega)))
      simp [this]
  show IntKind.i64.wrap ((BitVec.ofInt 64 (v * 256) ||| BitVec.ofInt 64 o).toNat : Int) = _
  rw [← BitVec.add_eq_or_of_and_eq_zero _ _ hand, ← BitVec.ofInt_add, BitVec.toNat_ofInt, IntKind.wrap_i64]
  omega

/-- The first two octets decide. -/
theorem two_octets (z0 z1 : Nat) (h0 : z0 < 256) (h1 : z1 < 256) (hmin : z0 = 0 ∧ 128 ≤ z1 ∨ z0 = 255 ∧ z1 < 128 ∨ z0 ≠ 0 ∧ z0 ≠ 255) : sgn z0 * 256 + (z1 : Int) < -128 ∨ 127 < sgn z0 * 256 + (z1 : Int) := by
  unfold sgn
  split <;> omega

/-- What the loop keeps. -/
def Rel (z : Nat → Nat) (k : Nat) (v : Int) : Prop := -bd k ≤ v ∧ v < bd k ∧ (k = 0 → v = sgn (z 0)) ∧ (1 ≤ k → v < -128 ∨ 127 < v)
theorem Rel.start (z : Nat → Nat) (h : z 0 < 256) : Rel z 0 (sgn (z 0)) := ⟨(sgn_bd _ h).1, (sgn_bd _ h).2, fun _ => rfl, fun h => absurd h (by omega)⟩
theorem Rel.step {z : Nat → Nat} {k : Nat} {v : Int} (hz : ∀ i, z i < 256) (hmin : z 0 = 0 ∧ 128 ≤ z 1 ∨ z 0 = 255 ∧ z 1 < 128 ∨ z 0 ≠ 0 ∧ z 0 ≠ 255) (h : Rel z k v) : Rel z (k + 1) (v * 256 + (z (k + 1) : Int)) := by
  obtain ⟨h1, h2, h3, h4⟩ := h
  have hzk := hz (k + 1)
  refine ⟨by simp only [bd]; omega, by simp only [bd]; omega, fun h => absurd h (by omega), fun _ => ?_⟩
  by_cases hk : k = 0
  · subst hk
    rw [h3 rfl]
    exact two_octets _ _ (hz 0) (hz 1) hmin
  · have := h4 (by omega)
    omega
theorem Rel.bounds {z : Nat → Nat} {k : Nat} {v : Int} (h : Rel z k v) (hk : k ≤ 6) : -36028797018963968 ≤ v ∧ v < 36028797018963968 := by
  have := bd_le k hk
  obtain ⟨h1, h2, _⟩ := h
  omega

theorem ret_two {v v' : Int} (h : v = v') : Ending.returned (.tuple #[.int .i64 v, .nilIface]) = .returned (.tuple #[.int .i64 v', .nilIface]) := by rw [h]

set_option maxHeartbeats 1600000 in
theorem int_ok (cls num off : Int) (b o n c : Nat) (z : Nat → Nat) (hn : 1 < n) (hn8 : n ≤ 8) (hz : ∀ i, z i < 256) (hmin : z 0 = 0 ∧ 128 ≤ z 1 ∨ z 0 = 255 ∧ z 1 < 128 ∨ z 0 ≠ 0 ∧ z 0 ≠ 255) (hc : n ≤ c) (w : World) (hcell : ∀ i, i < n → w.cell? ⟨b, o + i, none⟩ = some (.int .u8 (z i : Int))) :
    Calls Ybaf.prog 14 #[.agg #[.int .u8 cls, .bool false, .int .u32 num, .slice (some ⟨b, o, none⟩) n c, .slice none 0 0, .int .i64 off, .int .i64 0, .int .u8 0, .int .u8 0]] w fun e w' =>
      ∃ v : Int, e = .returned (.tuple #[.int .i64 v, .nilIface]) ∧ (v < -128 ∨ 127 < v) ∧ Below w.heap.size w w' := by
  have h0 := hcell 0 (by omega)
  have h1 := hcell 1 (by omega)
  have z0 := hz 0
  have z1 := hz 1
  simp only [Nat.add_zero] at h0
  have hbl := lt_cell h0
  have t0 : ((n : Int) == 0) = false := beq_eq_false_iff_ne.2 (by omega)
  have t1 : (1 : Int) < (n : Int) := by omega
  have t2 : (0 : Int) < (n : Int) := by omega
  have t8 : ¬ (8 : Int) < (n : Int) := by omega
  have HM : Hid (z 0 = 0 ∧ 128 ≤ z 1 ∨ z 0 = 255 ∧ z 1 < 128 ∨ z 0 ≠ 0 ∧ z 0 ≠ 255) := hmin
  have HS := Rel.start z z0
  have hse := sgn_eq (z 0) z0
  rcases hmin with ⟨e0, e1⟩ | ⟨e0, e1⟩ | ⟨e0, e1⟩
  · have H0 : Hid (sgn (z 0) = 0) := by rw [e0]; rfl
    rw [e0] at h0
    have ha := and128_ge _ e1 z1
    clear hse e0
    go_enter Ybaf.func14, Ybaf.ntmps14
    go_wp2
    go_loop [5, 72] (fun v5 i => ∃ k : Nat, k ≤ n - 1 ∧ i = .int .i64 k ∧ ∃ v : Int, v5 = .int .i64 v ∧ Rel z k v) (fun _ i => n - 1 - (intOf i).toNat)
    case atStart => exact ⟨0, Nat.zero_le _, rfl, 0, rfl, H0.out ▸ HS⟩
    case round =>
      obtain ⟨k, hk, rfl, v, rfl, hR⟩ := hrel
      by_cases hlt : k < n - 1
      · have hcx : w.cell? ⟨b, o + 1 + k, none⟩ = some (.int .u8 (z (k + 1) : Int)) := by have := hcell (k + 1) (by omega); rw [show o + 1 + k = o + (k + 1) by omega]; exact this
        obtain ⟨hv5, hv6⟩ := hR.bounds (by omega)
        have zk := hz (k + 1)
        have hor := or_i64 v (z (k + 1) : Int) hv5 hv6 (by omega) (by omega)
        go_wp2
        go_round
        case rel => exact ⟨k + 1, by omega, by go_num, _, rfl, hR.step hz HM.out⟩
        case measure => simp [intOf]; omega
      · have hv := hR.2.2.2 (by omega)
        go_wp2
        go_ret2
        exact ⟨v, rfl, hv, (Below.refl _ _).alloc (Nat.le_refl _) _⟩
  · have H0 : Hid (sgn (z 0) = -1) := by rw [e0]; rfl
    rw [e0] at h0
    have ha := and128_lt _ e1
    clear hse e0
    go_enter Ybaf.func14, Ybaf.ntmps14
    go_wp2
    go_loop [5, 72] (fun v5 i => ∃ k : Nat, k ≤ n - 1 ∧ i = .int .i64 k ∧ ∃ v : Int, v5 = .int .i64 v ∧ Rel z k v) (fun _ i => n - 1 - (intOf i).toNat)
    case atStart => exact ⟨0, Nat.zero_le _, rfl, -1, by rw [show (255 : Int) = ((255 : Nat) : Int) from rfl, sgn_eq 255 (by omega)]; rfl, H0.out ▸ HS⟩
    case round =>
      obtain ⟨k, hk, rfl, v, rfl, hR⟩ := hrel
      by_cases hlt : k < n - 1
      · have hcx : w.cell? ⟨b, o + 1 + k, none⟩ = some (.int .u8 (z (k + 1) : Int)) := by have := hcell (k + 1) (by omega); rw [show o + 1 + k = o + (k + 1) by omega]; exact this
        obtain ⟨hv5, hv6⟩ := hR.bounds (by omega)
        have zk := hz (k + 1)
        have hor := or_i64 v (z (k + 1) : Int) hv5 hv6 (by omega) (by omega)
        go_wp2
        go_round
        case rel => exact ⟨k + 1, by omega, by go_num, _, rfl, hR.step hz HM.out⟩
        case measure => simp [intOf]; omega
      · have hv := hR.2.2.2 (by omega)
        go_wp2
        go_ret2
        exact ⟨v, rfl, hv, (Below.refl _ _).alloc (Nat.le_refl _) _⟩
  · have k0 : ((z 0 : Int) == 0) = false := beq_eq_false_iff_ne.2 (by omega)
    have k1 : ((z 0 : Int) == 255) = false := beq_eq_false_iff_ne.2 (by omega)
    go_enter Ybaf.func14, Ybaf.ntmps14
    go_wp2
    go_loop [5, 72] (fun v5 i => ∃ k : Nat, k ≤ n - 1 ∧ i = .int .i64 k ∧ ∃ v : Int, v5 = .int .i64 v ∧ Rel z k v) (fun _ i => n - 1 - (intOf i).toNat)
    case atStart => exact ⟨0, Nat.zero_le _, rfl, _, rfl, HS⟩
    case round =>
      obtain ⟨k, hk, rfl, v, rfl, hR⟩ := hrel
      by_cases hlt : k < n - 1
      · have hcx : w.cell? ⟨b, o + 1 + k, none⟩ = some (.int .u8 (z (k + 1) : Int)) := by have := hcell (k + 1) (by omega); rw [show o + 1 + k = o + (k + 1) by omega]; exact this
        obtain ⟨hv5, hv6⟩ := hR.bounds (by omega)
        have zk := hz (k + 1)
        have hor := or_i64 v (z (k + 1) : Int) hv5 hv6 (by omega) (by omega)
        go_wp2
        go_round
        case rel => exact ⟨k + 1, by omega, by go_num, _, rfl, hR.step hz HM.out⟩
        case measure => simp [intOf]; omega
      · have hv := hR.2.2.2 (by omega)
        go_wp2
        go_ret2
        exact ⟨v, rfl, hv, (Below.refl _ _).alloc (Nat.le_refl _) _⟩
end Go.Proofs.YbulkatxeFmt
