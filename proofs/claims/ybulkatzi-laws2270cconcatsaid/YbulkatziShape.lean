/-
  zzs2270cok; LawS2270CShape: the walk.
-/
import Derived.Test.YbulkatziAck
namespace Go.Proofs.Ybulkatzi
open Go.RowKit Go.Lib
set_option linter.unusedVariables false
set_option linter.unusedSimpArgs false

def Cok (n : Nat) (s : Nat → ByteArray) (e : Ending) (w w' : World) : Prop := ∃ r : Bool, e = .returned (.bool r) ∧ w' = w ∧ (r = true → n ≤ 256 ∧ ∀ i, i < n → (s i).size ≤ 1024)

set_option maxHeartbeats 400000 in
theorem cok (a : Option Addr) (n c : Nat) (s : Nat → ByteArray) (t : Nat → Int) (hz : ∀ i, (s i).size ≤ maxLen) (w : World) (ho : IsStamps w a n c s t) :
    Calls Yba.prog 6 #[.slice a n c] w fun e w' => Cok n s e w w' := by
  have hnm := ho.1
  unfold maxLen at hnm hz
  by_cases hbig : 256 < n
  · have t256 : (256 : Int) < (n : Int) := by omega
    clear hz
    go_enter Yba.func6, Yba.ntmps6
    go_wp2
    go_ret
    exact ⟨false, rfl, rfl, fun h => by cases h⟩
  · have t256 : ¬ (256 : Int) < (n : Int) := by omega
    have HZ : Hid (∀ i, (s i).size ≤ 9223372036854775807) := hz
    have HO : Hid (IsStamps w a n c s t) := ho
    clear ho hz
    go_enter Yba.func6, Yba.ntmps6
    go_wp2
    go_loop [3] (fun v3 => ∃ k : Nat, k ≤ n ∧ v3 = .int .i64 k ∧ ∀ i, i < k → (s i).size ≤ 1024) (fun v3 => n - (intOf v3).toNat)
    case atStart => exact ⟨0, Nat.zero_le _, rfl, fun i hi => absurd hi (Nat.not_lt_zero _)⟩
    case round =>
      obtain ⟨k, hk, rfl, hall⟩ := hrel
      have HA : Hid (∀ i, i < k → (s i).size ≤ 1024) := hall
      clear hall
      by_cases hlt : k < n
      · rcases HO.out.2 with h0 | ⟨b, o, rfl, hnc, hcell⟩
        · omega
        · have u0 := (hcell k hlt).1
          have hzk := HZ.out k
          clear hcell
          by_cases hs : 1024 < (s k).size
          · have t5 : (1024 : Int) < ((s k).size : Int) := by omega
            go_wp2
            go_ret
            exact ⟨false, rfl, rfl, fun h => by cases h⟩
          · have t5 : ¬ (1024 : Int) < ((s k).size : Int) := by omega
            have hs' : Hid ((s k).size ≤ 1024) := by show _ ≤ _; omega
            go_wp2
            go_round
            case rel => exact ⟨k + 1, by omega, by go_num, fun i hi => if h : i = k then h ▸ hs'.out else HA.out i (by omega)⟩
            case measure => simp [intOf]; omega
      · obtain rfl : k = n := by omega
        go_wp2
        go_ret
        exact ⟨true, rfl, rfl, fun _ => ⟨by omega, HA.out⟩⟩

set_option maxHeartbeats 400000 in
theorem shape_walk (a : Option Addr) (n c : Nat) (s : Nat → ByteArray) (t : Nat → Int) (hz : ∀ i, (s i).size ≤ maxLen) (w : World) (ho : IsStamps w a n c s t) :
    Calls Yba.prog 3 #[.slice a n c] w fun e w' => e = .returned (.bool true) ∧ Below w.heap.size w w' := by
  have HO : Hid (IsStamps w a n c s t) := ho
  have hC := cok a n c s t hz w ho
  have HZ : Hid (∀ i, (s i).size ≤ maxLen) := hz
  clear ho hz
  go_enter Yba.func3, Yba.ntmps3
  go_wp2_with fail
  refine hC.mono ?_
  rintro e w1 ⟨r, rfl, rfl, hr⟩
  cases r with
  | false =>
    clear hr hC
    go_wp2
    go_ret
    exact ⟨rfl, Below.refl _ _⟩
  | true =>
    obtain ⟨hn, hs⟩ := hr rfl
    have HS : Hid (∀ i, i < n → (s i).size ≤ 1024) := hs
    have HT : Hid (∀ k, k ≤ n → tot s k ≤ 1036 * k) := tot_le hs
    clear hs hr hC
    go_wp2
    go_loop [3, 4] (fun v3 v4 => ∃ k : Nat, k ≤ n ∧ v4 = .int .i64 k ∧ v3 = .int .i64 (5 + (tot s k : Int))) (fun _ v4 => n - (intOf v4).toNat)
    case atStart => exact ⟨0, Nat.zero_le _, rfl, rfl⟩
    case round =>
      obtain ⟨k, hk, rfl, rfl⟩ := hrel
      have htk := HT.out k hk
      by_cases hlt : k < n
      · rcases HO.out.2 with h0 | ⟨b, o, rfl, hnc, hcell⟩
        · omega
        · have u0 := (hcell k hlt).1
          have hsk := HS.out k hlt
          clear hcell
          go_wp2
          go_round
          case rel => exact ⟨k + 1, by omega, by go_num, by simp only [tot]; go_num⟩
          case measure => simp [intOf]; omega
      · obtain rfl : k = n := by omega
        go_wp2_with fail
        refine (ack a k c s t (by omega) HS.out _ HO.out).mono ?_
        rintro e w2 ⟨F, rfl, hF, hH, hb⟩
        obtain ⟨rest, hh, hl, hm⟩ := hH.open
        have c4 : w2.cell? ⟨F, 4, none⟩ = some (byt 107) := by simp [World.cell?, hh, be4]
        have t5 : (4 : Int) < 5 + (tot s k : Int) := by omega
        clear hh hl hm hH
        go_wp2
        go_ret
        exact ⟨rfl, hb⟩
end Go.Proofs.Ybulkatzi
