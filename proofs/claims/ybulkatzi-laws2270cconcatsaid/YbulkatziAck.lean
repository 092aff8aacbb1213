/-
  ackFrame, zzs2270cok.
-/
import Derived.Test.YbulkatziFrame
namespace Go.Proofs.Ybulkatzi
open Go.RowKit Go.Lib
set_option linter.unusedVariables false
set_option linter.unusedSimpArgs false

def u64of (x : Int) : Nat := (x % 18446744073709551616).toNat
theorem u64of_lt (x : Int) : u64of x < 18446744073709551616 := by unfold u64of; omega
theorem u64of_wrap (x : Int) : IntKind.u64.wrap x = (u64of x : Int) := by
  have : IntKind.u64.wrap x = x % 18446744073709551616 := by simp [IntKind.wrap, IntKind.bits, IntKind.signed]
  rw [this]; unfold u64of; omega

def tot (s : Nat → ByteArray) : Nat → Nat
  | 0 => 0
  | k + 1 => tot s k + (4 + (s k).size + 8)
def body (s : Nat → ByteArray) (t : Nat → Int) : Nat → List Value
  | 0 => []
  | k + 1 => body s t k ++ (be4 (s k).size ++ (strCells (s k) ++ be8 (u64of (t k))))
theorem body_length (s : Nat → ByteArray) (t : Nat → Int) (k : Nat) : (body s t k).length = tot s k := by
  induction k with
  | zero => rfl
  | succ k ih => simp only [body, tot, List.length_append, ih, strCells_length]; simp [be4, be8]; omega
theorem tot_le {s : Nat → ByteArray} {n : Nat} (h : ∀ i, i < n → (s i).size ≤ 1024) : ∀ k, k ≤ n → tot s k ≤ 1036 * k := by
  intro k
  induction k with
  | zero => intro _; simp [tot]
  | succ k ih => intro hk; have := ih (by omega); have := h k (by omega); simp only [tot]; omega
theorem tot_mono (s : Nat → ByteArray) {k n : Nat} (h : k ≤ n) : tot s k ≤ tot s n := by
  induction n with
  | zero => obtain rfl : k = 0 := by omega
            exact Nat.le_refl _
  | succ n ih =>
    by_cases e : k = n + 1
    · subst e; exact Nat.le_refl _
    · have := ih (by omega); simp only [tot]; omega

/-- Stamps that came in. -/
def IsStamps (w : World) (a : Option Addr) (n c : Nat) (s : Nat → ByteArray) (t : Nat → Int) : Prop :=
  n ≤ maxLen ∧ (n = 0 ∨ ∃ b o, a = some ⟨b, o, none⟩ ∧ n ≤ c ∧ ∀ i, i < n → w.cell? ⟨b, o + i * 2, none⟩ = some (.string (s i)) ∧ w.cell? ⟨b, o + i * 2 + 1, none⟩ = some (.int .i64 (t i)))

theorem IsStamps.later {w W : World} {a : Option Addr} {n c : Nat} {s : Nat → ByteArray} {t : Nat → Int} (h : IsStamps w a n c s t) (hb : Below w.heap.size w W) : IsStamps W a n c s t := by
  refine ⟨h.1, ?_⟩
  rcases h.2 with h | ⟨b, o, e, hnc, hcell⟩
  · exact .inl h
  · exact .inr ⟨b, o, e, hnc, fun i hi => ⟨(hb.cell (lt_of_cell (hcell i hi).1)).trans (hcell i hi).1, (hb.cell (lt_of_cell (hcell i hi).2)).trans (hcell i hi).2⟩⟩

theorem EncAt.alloc {w : World} {E F c : Nat} {xs : List Value} (h : EncAt w E F c xs) (o : Obj) : EncAt (w.alloc o) E F c xs :=
  ⟨(Below.heap_alloc _ _ _ (lt_of_cell (box_cell h.box).1)).trans h.box, h.has.alloc o, h.ne⟩

def head5 (k : Nat) : List Value := [byt 0, byt 0, byt 0, byt 0, byt k]

set_option maxHeartbeats 800000 in
theorem ack (a : Option Addr) (n c : Nat) (s : Nat → ByteArray) (t : Nat → Int) (hn : n ≤ 512) (hs : ∀ i, i < n → (s i).size ≤ 1024) (w : World) (ho : IsStamps w a n c s t) :
    Calls Yba.prog 7 #[.slice a n c] w fun e w' => ∃ F, e = .returned (.slice (some ⟨F, 0, none⟩) (5 + tot s n) (5 + tot s n)) ∧ w.heap.size ≤ F ∧
      Has w' F (5 + tot s n) (be4 (1 + tot s n) ++ (byt 107 :: body s t n)) ∧ Below w.heap.size w w' := by
  have HT : Hid (∀ k, k ≤ n → tot s k ≤ 1036 * k) := tot_le hs
  have HO : Hid (IsStamps w a n c s t) := ho
  clear ho
  have HS : Hid (∀ i, i < n → (s i).size ≤ 1024) := hs
  clear hs
  go_enter Yba.func7, Yba.ntmps7
  go_wp2
  go_loopw [3, 11, 5] (fun v3 v11 _ wr => ∃ k : Nat, k ≤ n ∧ v11 = .int .i64 k ∧ v3 = .int .i64 (tot s k) ∧ Below w.heap.size w wr) (fun _ v11 _ _ => n - (intOf v11).toNat)
  case atStart => exact ⟨0, Nat.zero_le _, rfl, rfl, Below.refl _ _⟩
  case round =>
    obtain ⟨k, hk, rfl, rfl, hb⟩ := hrel
    have htk := HT.out k hk
    by_cases hlt : k < n
    · rcases HO.out.2 with h0 | ⟨b, o, rfl, hnc, hcell⟩
      · omega
      · have hbl := lt_of_cell (hcell k hlt).1
        have u0 := (hb.cell (p := ⟨b, o + k * 2, none⟩) hbl).trans (hcell k hlt).1
        have u1 := (hb.cell (p := ⟨b, o + k * 2 + 1, none⟩) hbl).trans (hcell k hlt).2
        have hsk := HS.out k hlt
        clear hcell
        go_wp2
        go_roundw
        case rel => exact ⟨k + 1, by omega, by go_num, by simp only [tot]; go_num, hb.alloc hb.size _⟩
        case measure => simp [intOf]; omega
    · obtain rfl : k = n := by omega
      have htn : tot s k ≤ 1099511627776 := by omega
      go_wp2_with fail
      refine (newEnc 107 (tot s k) htn _).mono ?_
      rintro e w1 ⟨rfl, hE, hb1, hz1⟩
      have hb2 : Below w.heap.size w w1 := hb.trans (hb1.mono hb.size)
      have hge : w.heap.size ≤ wr.heap.size := hb.size
      have hE0 : Hid (EncAt w1 (wr.heap.size + 1) wr.heap.size (5 + tot s k) (head5 107 ++ body s t 0)) := hE
      clear hb hE hb1
      generalize hEe : wr.heap.size + 1 = E at *
      generalize hFe : wr.heap.size = F at *
      have hgeE : w.heap.size ≤ E := by omega
      clear hEe
      go_wp2
      go_loopw [27, 8] (fun v27 _ wx => ∃ j : Nat, j ≤ k ∧ v27 = .int .i64 j ∧ EncAt wx E F (5 + tot s k) (head5 107 ++ body s t j) ∧ Below w.heap.size w wx) (fun v27 _ _ => k - (intOf v27).toNat)
      case atStart => exact ⟨0, Nat.zero_le _, rfl, hE0.out, hb2⟩
      case round =>
        clear hb2 hE0
        obtain ⟨j, hj, rfl, hE, hb⟩ := hrel
        have htj := HT.out j hj
        have hEb := lt_of_cell (box_cell hE.box).1
        have hFb := hE.has.lt
        have HE : Hid (EncAt wr E F (5 + tot s k) (head5 107 ++ body s t j)) := hE
        clear hE
        by_cases hlt : j < k
        · rcases HO.out.2 with h0 | ⟨b, o, rfl, hnc, hcell⟩
          · omega
          · have hbl := lt_of_cell (hcell j hlt).1
            have u0 := (hb.cell (p := ⟨b, o + j * 2, none⟩) hbl).trans (hcell j hlt).1
            have u1 := (hb.cell (p := ⟨b, o + j * 2 + 1, none⟩) hbl).trans (hcell j hlt).2
            have hsj := HS.out j hlt
            have hm := tot_mono s (show j + 1 ≤ k by omega)
            have hl : (head5 107 ++ body s t j).length = 5 + tot s j := by rw [List.length_append, body_length]; rfl
            simp only [tot] at hm
            have Hl : Hid ((head5 107 ++ body s t j).length = 5 + tot s j) := hl
            clear hcell hl
            go_wp2_with fail
            refine (encString E F (5 + tot s k) _ (s j) (by omega) (by have := Hl.out; omega) _ (HE.out.alloc _)).mono ?_
            rintro e w2 ⟨rfl, hE2, hf2⟩
            have v1 : w2.cell? ⟨wr.heap.size, 1, none⟩ = some (.int .i64 (t j)) := by rw [hf2.cell (p := ⟨wr.heap.size, 1, none⟩) (by simp) (by simp; omega), cell_alloc_new]; rfl
            have HE2 : Hid (EncAt w2 E F (5 + tot s k) (head5 107 ++ body s t j ++ be4 (s j).size ++ strCells (s j))) := hE2
            have hb2 : Hid (Below w.heap.size w w2) := (hb.alloc hb.size _).trans (hf2.below (by simp; exact Nat.le_succ_of_le hb.size) (fun i hi e => by rcases e with e | e <;> omega))
            clear hE2 hf2 u0 u1
            go_wp2_with fail
            refine (encInt E F (5 + tot s k) _ (t j) (u64of (t j)) (u64of_lt _) (u64of_wrap _) (by have := Hl.out; simp only [List.length_append, strCells_length] at this ⊢; simp [be4] at this ⊢; omega) _ HE2.out).mono ?_
            rintro e w3 ⟨rfl, hE3, hf3⟩
            have hs2 := hb2.out.size
            go_wp2
            go_roundw
            case rel =>
              refine ⟨j + 1, by omega, by go_num, ?_, hb2.out.trans (hf3.below hs2 (fun i hi e => by rcases e with e | e <;> omega))⟩
              simpa only [body, List.append_assoc] using hE3
            case measure => simp [intOf]; omega
        · obtain rfl : j = k := by omega
          have hl : (byt 107 :: body s t j).length = 1 + tot s j := by rw [List.length_cons, body_length]; omega
          have Hl : Hid ((byt 107 :: body s t j).length = 1 + tot s j) := hl
          clear hl
          go_wp2_with fail
          refine (encFrame E F (5 + tot s j) (byt 0) (byt 0) (byt 0) (byt 0) (byt 107 :: body s t j) (by rw [Hl.out]; omega) _ HE.out).mono ?_
          rintro e w2 ⟨rfl, hH2, hf2⟩
          have e1 : 4 + (byt 107 :: body s t j).length = 5 + tot s j := by rw [Hl.out]; omega
          rw [Hl.out] at hH2
          rw [e1]
          have HH : Hid (Has w2 F (5 + tot s j) (be4 (1 + tot s j) ++ (byt 107 :: body s t j))) := hH2
          clear hH2 e1
          go_wp2
          go_ret
          exact ⟨F, rfl, hge, HH.out, hb.trans (hf2.below hb.size (fun i hi e => by omega))⟩
end Go.Proofs.Ybulkatzi
