/-
  zzs2266aencode: the shortest two's complement octets.
-/
import Derived.Test.YbulkatxeFmtExact
namespace Go.Proofs.YbulkatxeFmt
open Go.RowKit Go.Extern.Stop Go.Stop Go.Extern
set_option linter.unusedVariables false
set_option linter.unusedSimpArgs false
set_option maxRecDepth 100000

/-- The eight octets of a number, the highest first. -/
def oct (u : Nat) (j : Nat) : Nat := u / 256 ^ (7 - j) % 256
theorem oct_lt (u j : Nat) : oct u j < 256 := Nat.mod_lt _ (by decide)
/-- An octet that the encoder leaves out. -/
def Skip (u j : Nat) : Prop := oct u j = 0 ∧ oct u (j + 1) < 128 ∨ oct u j = 255 ∧ 128 ≤ oct u (j + 1)

theorem skip_all {u : Nat} (h : ∀ j, j < 7 → Skip u j) (hu : u < 18446744073709551616) : u < 128 ∧ oct u 7 = u ∨ 18446744073709551488 ≤ u ∧ oct u 7 + 18446744073709551360 = u := by
  have h0 := h 0 (by decide)
  have h1 := h 1 (by decide)
  have h2 := h 2 (by decide)
  have h3 := h 3 (by decide)
  have h4 := h 4 (by decide)
  have h5 := h 5 (by decide)
  have h6 := h 6 (by decide)
  clear h
  unfold Skip oct at *
  simp only [Nat.reduceAdd, Nat.reduceSub, Nat.reducePow, Nat.reduceMul, Nat.div_one] at *
  rcases h0 with ⟨a0, b0⟩ | ⟨a0, b0⟩ <;> rcases h1 with ⟨a1, b1⟩ | ⟨a1, b1⟩ <;> first | (exfalso; omega) | skip
  all_goals (rcases h2 with ⟨a2, b2⟩ | ⟨a2, b2⟩ <;> first | (exfalso; clear a0 b0 b1; omega) | skip)
  all_goals (rcases h3 with ⟨a3, b3⟩ | ⟨a3, b3⟩ <;> first | (exfalso; clear a0 b0 b1 a1; omega) | skip)
  all_goals (rcases h4 with ⟨a4, b4⟩ | ⟨a4, b4⟩ <;> first | (exfalso; clear a0 b0 b1 a1 a2 b2; omega) | skip)
  all_goals (rcases h5 with ⟨a5, b5⟩ | ⟨a5, b5⟩ <;> first | (exfalso; clear a0 b0 b1 a1 a2 b2 a3 b3; omega) | skip)
  all_goals (rcases h6 with ⟨a6, b6⟩ | ⟨a6, b6⟩ <;> first | (exfalso; clear a0 b0 b1 a1 a2 b2 a3 b3 a4 b4; omega) | skip)
  all_goals omega

theorem skip_small {u : Nat} (h : u < 128 ∨ 18446744073709551488 ≤ u) (hu : u < 18446744073709551616) : ∀ j, j < 7 → Skip u j := by
  intro j hj
  have : j = 0 ∨ j = 1 ∨ j = 2 ∨ j = 3 ∨ j = 4 ∨ j = 5 ∨ j = 6 := by omega
  rcases this with rfl | rfl | rfl | rfl | rfl | rfl | rfl <;> unfold Skip oct <;>
    simp only [Nat.reduceAdd, Nat.reduceSub, Nat.reducePow, Nat.reduceMul, Nat.div_one] <;> omega

theorem oct_int (u j d : Nat) (h : 256 ^ (7 - j) = d) : (oct u j : Int) = (u : Int) / (d : Int) % 256 := by
  rw [oct, h, Int.natCast_emod, Int.natCast_ediv]; rfl
theorem oct_int7 (u : Nat) : (oct u 7 : Int) = (u : Int) % 256 := by
  have h : oct u 7 = u % 256 := by unfold oct; simp
  rw [h, Int.natCast_emod]; rfl
theorem cell_alloc_new (w : World) (cs : Array Value) (t : TypeId) (j : Nat) : (w.alloc (.cells cs t)).cell? ⟨w.heap.size, j, none⟩ = cs[j]? := by
  simp only [World.cell?, heap_alloc_new]
  rfl
theorem ending_slice {a : Option Addr} {n m c d : Nat} (h : n = m) (h' : c = d) : Ending.returned (Value.slice a n c) = Ending.returned (Value.slice a m d) := by rw [h, h']

set_option maxHeartbeats 1600000 in
theorem encode (x : Int) (u : Nat) (hx : IntKind.u64.wrap x = (u : Int)) (w : World) :
    Calls Ybaf.prog 10 #[.int .i64 x] w fun e w' => ∃ k : Nat, k ≤ 7 ∧ e = .returned (.slice (some ⟨w.heap.size, k, none⟩) (8 - k) (8 - k)) ∧ Below w.heap.size w w' ∧ w.heap.size < w'.heap.size ∧
      (∀ j, j < 8 → w'.cell? ⟨w.heap.size, j, none⟩ = some (.int .u8 (oct u j : Int))) ∧ (∀ j, j < k → Skip u j) ∧ (k < 7 → ¬ Skip u k) := by
  have hmk : ∀ w, (Instr.makeSlice 23 (.int .i64 8) (.int .i64 8)).run Ybaf.prog w = .ok (.slice (some ⟨w.heap.size, 0, none⟩) 8 8) (w.alloc (.cells #[.int .u8 0, .int .u8 0, .int .u8 0, .int .u8 0, .int .u8 0, .int .u8 0, .int .u8 0, .int .u8 0] 5)) := fun _ => by kernel_rfl
  go_enter Ybaf.func10, Ybaf.ntmps10
  go_wp2
  refine wp_loop_rounds 9 ?_
  rw [rounds_succ]
  go_wp2
  rw [rounds_succ]
  go_wp2
  rw [rounds_succ]
  go_wp2
  rw [rounds_succ]
  go_wp2
  rw [rounds_succ]
  go_wp2
  rw [rounds_succ]
  go_wp2
  rw [rounds_succ]
  go_wp2
  rw [rounds_succ]
  go_wp2
  rw [rounds_succ]
  go_wp2
  generalize hW : World.alloc w _ = W
  have hb : Below w.heap.size w W := by rw [← hW]; exact (Below.refl _ _).alloc (Nat.le_refl _) _
  have hs : w.heap.size < W.heap.size := by rw [← hW]; simp
  have hcell : ∀ j, j < 8 → W.cell? ⟨w.heap.size, j, none⟩ = some (.int .u8 (oct u j : Int)) := by
    intro j hj
    have : j = 0 ∨ j = 1 ∨ j = 2 ∨ j = 3 ∨ j = 4 ∨ j = 5 ∨ j = 6 ∨ j = 7 := by omega
    subst hW
    rw [cell_alloc_new]
    rcases this with rfl | rfl | rfl | rfl | rfl | rfl | rfl | rfl
    · exact congrArg (fun z => some (Value.int .u8 z)) (oct_int u 0 72057594037927936 rfl).symm
    · exact congrArg (fun z => some (Value.int .u8 z)) (oct_int u 1 281474976710656 rfl).symm
    · exact congrArg (fun z => some (Value.int .u8 z)) (oct_int u 2 1099511627776 rfl).symm
    · exact congrArg (fun z => some (Value.int .u8 z)) (oct_int u 3 4294967296 rfl).symm
    · exact congrArg (fun z => some (Value.int .u8 z)) (oct_int u 4 16777216 rfl).symm
    · exact congrArg (fun z => some (Value.int .u8 z)) (oct_int u 5 65536 rfl).symm
    · exact congrArg (fun z => some (Value.int .u8 z)) (oct_int u 6 256 rfl).symm
    · exact congrArg (fun z => some (Value.int .u8 z)) (oct_int7 u).symm
  have HC : Hid (∀ j, j < 8 → W.cell? ⟨w.heap.size, j, none⟩ = some (.int .u8 (oct u j : Int))) := hcell
  clear hW hmk hcell
  generalize hB : w.heap.size = B at *
  go_loop [6] (fun i => ∃ k : Nat, k ≤ 7 ∧ i = .int .i64 k ∧ ∀ j, j < k → Skip u j) (fun i => 7 - (intOf i).toNat)
  case atStart => exact ⟨0, by omega, rfl, fun j hj => absurd hj (by omega)⟩
  case round =>
    obtain ⟨k, hk, rfl, hsk⟩ := hrel
    by_cases h7 : k < 7
    · have c0 := HC.out k (by omega)
      have c1 := HC.out (k + 1) (by omega)
      have l1 := oct_lt u (k + 1)
      have l0 := oct_lt u k
      have t7 : (k : Int) < 7 := by omega
      by_cases e0 : oct u k = 0
      · by_cases e1 : oct u (k + 1) < 128
        · have hS : Hid (Skip u k) := .inl ⟨e0, e1⟩
          have ha := and128_lt _ e1
          rw [e0] at c0
          clear e0 l0
          go_wp2
          go_round
          case rel => exact ⟨k + 1, by omega, by go_num, fun j hj => if h : j = k then h ▸ hS.out else hsk j (by omega)⟩
          case measure => simp [intOf]; omega
        · have hS : Hid (¬ Skip u k) := by intro h; unfold Skip at h; omega
          have ha := and128_ge _ (by omega) l1
          rw [e0] at c0
          clear e0 l0
          go_wp2
          go_ret
          exact ⟨k, by omega, ending_slice (by omega) (by omega), hb, hs, HC.out, hsk, fun _ => hS.out⟩
      · have k0 : ((oct u k : Int) == 0) = false := beq_eq_false_iff_ne.2 (by omega)
        by_cases e5 : oct u k = 255
        · by_cases e1 : oct u (k + 1) < 128
          · have hS : Hid (¬ Skip u k) := by intro h; unfold Skip at h; omega
            have ha := and128_lt _ e1
            rw [e5] at c0
            clear e5 l0 k0 e0
            go_wp2
            go_ret
            exact ⟨k, by omega, ending_slice (by omega) (by omega), hb, hs, HC.out, hsk, fun _ => hS.out⟩
          · have hS : Hid (Skip u k) := .inr ⟨e5, by omega⟩
            have ha := and128_ge _ (by omega) l1
            rw [e5] at c0
            clear e5 l0 k0 e0
            go_wp2
            go_round
            case rel => exact ⟨k + 1, by omega, by go_num, fun j hj => if h : j = k then h ▸ hS.out else hsk j (by omega)⟩
            case measure => simp [intOf]; omega
        · have k5 : ((oct u k : Int) == 255) = false := beq_eq_false_iff_ne.2 (by omega)
          have hS : Hid (¬ Skip u k) := by intro h; unfold Skip at h; omega
          go_wp2
          go_ret
          exact ⟨k, by omega, ending_slice (by omega) (by omega), hb, hs, HC.out, hsk, fun _ => hS.out⟩
    · obtain rfl : k = 7 := by omega
      go_wp2
      go_ret
      exact ⟨7, by omega, ending_slice (by omega) (by omega), hb, hs, HC.out, hsk, fun h => absurd h (by omega)⟩
end Go.Proofs.YbulkatxeFmt
