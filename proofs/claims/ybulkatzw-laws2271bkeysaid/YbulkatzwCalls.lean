/-
  zzs2271bsize, zzs2271bbe, bytes.Equal.
-/
import Derived.Test.YbulkatzwDefs
import Derived.Laws.CopyOwn
import Derived.Deep.WholeRow
namespace Go.Proofs.Ybulkatzw
open Go.RowKit Go.Lib
set_option linter.unusedVariables false
set_option linter.unusedSimpArgs false
set_option maxRecDepth 100000

def szOf (s : Nat) : Nat := if s % 4 = 0 then 1 else if s % 4 = 1 then 2 else if s % 4 = 2 then 4 else 8
theorem szOf_cases (s : Nat) : szOf s = 1 ∨ szOf s = 2 ∨ szOf s = 4 ∨ szOf s = 8 := by
  unfold szOf
  split
  · exact .inl rfl
  · split
    · exact .inr (.inl rfl)
    · split
      · exact .inr (.inr (.inl rfl))
      · exact .inr (.inr (.inr rfl))

theorem sizeC (s : Nat) (hs : s < 256) (w : World) : Calls Yba.prog 5 #[.int .u8 (s : Int)] w fun e w' => e = .returned (.int .i64 (szOf s : Int)) ∧ w' = w := by
  have h4 : s % 4 = 0 ∨ s % 4 = 1 ∨ s % 4 = 2 ∨ s % 4 = 3 := by omega
  have hr : ∀ r : Nat, s % 4 = r → Int.tmod (s : Int) 4 = (r : Int) := fun r h => by rw [← h]; rfl
  rcases h4 with h | h | h | h
  all_goals
    have hr' := hr _ h
    have hz : szOf s = szOf s := rfl
    conv at hz => rhs; unfold szOf; simp [h]
    rw [hz]
    clear hz hr
    go_enter Yba.func5, Yba.ntmps5
    go_wp2
    go_ret
    exact ⟨rfl, rfl⟩

/-- The byte of place j. -/
def bt (x j : Nat) : Value := cellOf (lo (x / 256 ^ j))
def tb (x k j : Nat) : Value := if j < k then bt x j else .int .u8 0
def tmpA (x k : Nat) : Array Value := #[tb x k 7, tb x k 6, tb x k 5, tb x k 4, tb x k 3, tb x k 2, tb x k 1, tb x k 0]

theorem make_byte (n : Nat) (hn : n ≤ 1048576) (w : World) :
    (Instr.makeSlice 23 (.int .i64 (n : Int)) (.int .i64 (n : Int))).run Yba.prog w = .ok (.slice (some ⟨w.heap.size, 0, none⟩) n n) (w.alloc (.cells (List.replicate n (Value.int .u8 0)).toArray 5)) := by
  obtain ⟨i, hi, hs, hby, hz⟩ := info5
  have h := run_make (P := Yba.prog) w 23 5 i (.int .u8 0) Yba.underlying23 hi hz .i64 .i64 (n : Int) (n : Int) (by omega) (by omega) (by rw [hby]; omega) (by omega)
  simp only [Int.toNat_natCast] at h
  rw [h, hs, Nat.mul_one]
  have e : madeCells (Value.int .u8 0).cells n = (List.replicate n (Value.int .u8 0)).toArray := by
    apply Array.ext'
    apply List.ext_getElem?
    intro j
    have h1 : (Value.int .u8 0).cells = #[Value.int .u8 0] := rfl
    by_cases hj : j < n
    · simp [madeCells, h1, hj, Nat.mod_one]
    · simp [madeCells, h1, hj]
  rw [e]

theorem beN_bt (x n : Nat) : (beN x (n + 1)).map cellOf = bt x n :: (beN x n).map cellOf := rfl
theorem info5s : (Yba.prog.info? 5).map (·.size) = some 1 := by kernel_rfl

theorem new_at (W : World) {K : Nat} (h : K = W.heap.size) (o : Obj) : (W.alloc o).heap[K]? = some o := by rw [h]; exact heap_alloc_new W o

theorem copy_tmp (w : World) (A z : Array Value) (n o : Nat) (cs : List Value) (hl : cs.length = n) (hz : z.size = n) (hsrc : ∀ j v, cs[j]? = some v → A[o + j]? = some v) (h1 : ∀ v ∈ cs, v.oneCell' = true) :
    (Builtin.copy_ #[23, 23] 3 #[.slice (some ⟨w.heap.size + 1, 0, none⟩) n n, .slice (some ⟨w.heap.size, o, none⟩) n n]).run Yba.prog ((w.alloc (.cells A 59)).alloc (.cells z 5)) = .ok (goInt n) ((w.alloc (.cells A 59)).alloc (.cells cs.toArray 5)) := by
  have hs : (w.alloc (.cells A 59)).heap.size = w.heap.size + 1 := by simp
  have h := run_copy_row (P := Yba.prog) ((w.alloc (.cells A 59)).alloc (.cells z 5)) 23 23 3 5 (w.heap.size + 1) 0 n n ⟨w.heap.size, o, none⟩ n n z 5 cs Yba.underlying23 info5s (by rw [← hs]; exact heap_alloc_new _ _) (by simp [hl]) (fun j v hj => ?_) (by omega) h1
  · rw [h, hl, ← hs, World.setRow_alloc_new]
    congr 4
    have hd : z.toList.drop n = [] := List.drop_of_length_le (by simp [hz])
    simp [hd]
  · rw [Addr.add_lit, World.cell?_alloc_lt _ _ ⟨w.heap.size, o + j, none⟩ (by simp), cell_alloc_new]
    exact hsrc j v hj

set_option maxHeartbeats 1600000 in
theorem beC (x n : Nat) (hx : x < 18446744073709551616) (hn : n = 1 ∨ n = 2 ∨ n = 4 ∨ n = 8) (w : World) :
    Calls Yba.prog 6 #[.int .u64 (x : Int), .int .i64 (n : Int)] w fun e w' => ∃ b, e = .returned (.slice (some ⟨b, 0, none⟩) n n) ∧ w.heap.size ≤ b ∧ w'.heap[b]? = some (.cells ((beN x n).map cellOf).toArray 5 (0, 0)) ∧ Below w.heap.size w w' := by
  go_enter Yba.func6, Yba.ntmps6
  go_wp2
  go_loopw [0, 6] (fun v0 v6 wr => ∃ k y : Nat, k ≤ 8 ∧ y = x / 256 ^ k ∧ v6 = .int .i64 (k : Int) ∧ v0 = .int .u64 (y : Int) ∧ wr = w.alloc (.cells (tmpA x k) 59)) (fun _ v6 _ => 8 - (intOf v6).toNat)
  case atStart => exact ⟨0, x, Nat.zero_le _, by simp, rfl, rfl, rfl⟩
  case round =>
    obtain ⟨k, y, hk, hy, rfl, rfl, hw⟩ := hrel
    subst wr
    have hyl : y < 18446744073709551616 := by rw [hy]; exact Nat.lt_of_le_of_lt (Nat.div_le_self _ _) hx
    have hc : Hid (.int .u8 ((y : Int) % 256) = bt x k) := by
      show _ = _
      rw [bt, cell_lo, ← hy]; rfl
    have hy2 : Hid (y / 256 = x / 256 ^ (k + 1)) := by
      show _ = _
      rw [hy, Nat.pow_succ, Nat.div_div_eq_div_mul]
    clear hy
    have hk8 : k = 0 ∨ k = 1 ∨ k = 2 ∨ k = 3 ∨ k = 4 ∨ k = 5 ∨ k = 6 ∨ k = 7 ∨ k = 8 := by omega
    rcases hk8 with rfl | rfl | rfl | rfl | rfl | rfl | rfl | rfl | rfl
    · simp only [tmpA, tb, Nat.reduceLT, reduceIte]
      go_wp2
      go_roundw
      case rel => exact ⟨1, y / 256, by omega, hy2.out, rfl, rfl, by rw [hc.out]; simp only [tmpA, tb, Nat.reduceLT, reduceIte]⟩
      case measure => simp [intOf]
    · simp only [tmpA, tb, Nat.reduceLT, reduceIte]
      go_wp2
      go_roundw
      case rel => exact ⟨2, y / 256, by omega, hy2.out, rfl, rfl, by rw [hc.out]; simp only [tmpA, tb, Nat.reduceLT, reduceIte]⟩
      case measure => simp [intOf]
    · simp only [tmpA, tb, Nat.reduceLT, reduceIte]
      go_wp2
      go_roundw
      case rel => exact ⟨3, y / 256, by omega, hy2.out, rfl, rfl, by rw [hc.out]; simp only [tmpA, tb, Nat.reduceLT, reduceIte]⟩
      case measure => simp [intOf]
    · simp only [tmpA, tb, Nat.reduceLT, reduceIte]
      go_wp2
      go_roundw
      case rel => exact ⟨4, y / 256, by omega, hy2.out, rfl, rfl, by rw [hc.out]; simp only [tmpA, tb, Nat.reduceLT, reduceIte]⟩
      case measure => simp [intOf]
    · simp only [tmpA, tb, Nat.reduceLT, reduceIte]
      go_wp2
      go_roundw
      case rel => exact ⟨5, y / 256, by omega, hy2.out, rfl, rfl, by rw [hc.out]; simp only [tmpA, tb, Nat.reduceLT, reduceIte]⟩
      case measure => simp [intOf]
    · simp only [tmpA, tb, Nat.reduceLT, reduceIte]
      go_wp2
      go_roundw
      case rel => exact ⟨6, y / 256, by omega, hy2.out, rfl, rfl, by rw [hc.out]; simp only [tmpA, tb, Nat.reduceLT, reduceIte]⟩
      case measure => simp [intOf]
    · simp only [tmpA, tb, Nat.reduceLT, reduceIte]
      go_wp2
      go_roundw
      case rel => exact ⟨7, y / 256, by omega, hy2.out, rfl, rfl, by rw [hc.out]; simp only [tmpA, tb, Nat.reduceLT, reduceIte]⟩
      case measure => simp [intOf]
    · simp only [tmpA, tb, Nat.reduceLT, reduceIte]
      go_wp2
      go_roundw
      case rel => exact ⟨8, y / 256, by omega, hy2.out, rfl, rfl, by rw [hc.out]; simp only [tmpA, tb, Nat.reduceLT, reduceIte]⟩
      case measure => simp [intOf]
    · simp only [tmpA, tb, Nat.reduceLT, reduceIte]
      clear hc hy2
      rcases hn with rfl | rfl | rfl | rfl
      · have hmk : ∀ W : World, (Instr.makeSlice 23 (.int .i64 1) (.int .i64 1)).run Yba.prog W = .ok (.slice (some ⟨W.heap.size, 0, none⟩) 1 1) (W.alloc (.cells #[.int .u8 0] 5)) := fun W => make_byte 1 (by decide) W
        have hcp : (Builtin.copy_ #[23, 23] 3 #[.slice (some ⟨w.heap.size + 1, 0, none⟩) 1 1, .slice (some ⟨w.heap.size, 7, none⟩) 1 1]).run Yba.prog ((w.alloc (.cells #[bt x 7, bt x 6, bt x 5, bt x 4, bt x 3, bt x 2, bt x 1, bt x 0] 59)).alloc (.cells #[.int .u8 0] 5)) = .ok (goInt 1) ((w.alloc (.cells #[bt x 7, bt x 6, bt x 5, bt x 4, bt x 3, bt x 2, bt x 1, bt x 0] 59)).alloc (.cells #[bt x 0] 5)) :=
          copy_tmp w _ #[.int .u8 0] 1 7 [bt x 0] rfl rfl (fun j v hj => by
            have hj' := (List.getElem?_eq_some_iff.1 hj).1
            simp only [List.length_cons, List.length_nil] at hj'
            rcases (by omega : j = 0) with rfl <;> exact hj) (fun v hv => by
            simp only [List.mem_cons, List.mem_nil_iff, or_false] at hv
            rcases hv with rfl <;> rfl)
        go_wp2
        go_ret
        exact ⟨w.heap.size + 1, rfl, by omega, new_at _ (by simp) _, ((Below.refl _ _).alloc (Nat.le_refl _) _).alloc (by simp) _⟩
      · have hmk : ∀ W : World, (Instr.makeSlice 23 (.int .i64 2) (.int .i64 2)).run Yba.prog W = .ok (.slice (some ⟨W.heap.size, 0, none⟩) 2 2) (W.alloc (.cells #[.int .u8 0, .int .u8 0] 5)) := fun W => make_byte 2 (by decide) W
        have hcp : (Builtin.copy_ #[23, 23] 3 #[.slice (some ⟨w.heap.size + 1, 0, none⟩) 2 2, .slice (some ⟨w.heap.size, 6, none⟩) 2 2]).run Yba.prog ((w.alloc (.cells #[bt x 7, bt x 6, bt x 5, bt x 4, bt x 3, bt x 2, bt x 1, bt x 0] 59)).alloc (.cells #[.int .u8 0, .int .u8 0] 5)) = .ok (goInt 2) ((w.alloc (.cells #[bt x 7, bt x 6, bt x 5, bt x 4, bt x 3, bt x 2, bt x 1, bt x 0] 59)).alloc (.cells #[bt x 1, bt x 0] 5)) :=
          copy_tmp w _ #[.int .u8 0, .int .u8 0] 2 6 [bt x 1, bt x 0] rfl rfl (fun j v hj => by
            have hj' := (List.getElem?_eq_some_iff.1 hj).1
            simp only [List.length_cons, List.length_nil] at hj'
            rcases (by omega : j = 0 ∨ j = 1) with rfl | rfl <;> exact hj) (fun v hv => by
            simp only [List.mem_cons, List.mem_nil_iff, or_false] at hv
            rcases hv with rfl | rfl <;> rfl)
        go_wp2
        go_ret
        exact ⟨w.heap.size + 1, rfl, by omega, new_at _ (by simp) _, ((Below.refl _ _).alloc (Nat.le_refl _) _).alloc (by simp) _⟩
      · have hmk : ∀ W : World, (Instr.makeSlice 23 (.int .i64 4) (.int .i64 4)).run Yba.prog W = .ok (.slice (some ⟨W.heap.size, 0, none⟩) 4 4) (W.alloc (.cells #[.int .u8 0, .int .u8 0, .int .u8 0, .int .u8 0] 5)) := fun W => make_byte 4 (by decide) W
        have hcp : (Builtin.copy_ #[23, 23] 3 #[.slice (some ⟨w.heap.size + 1, 0, none⟩) 4 4, .slice (some ⟨w.heap.size, 4, none⟩) 4 4]).run Yba.prog ((w.alloc (.cells #[bt x 7, bt x 6, bt x 5, bt x 4, bt x 3, bt x 2, bt x 1, bt x 0] 59)).alloc (.cells #[.int .u8 0, .int .u8 0, .int .u8 0, .int .u8 0] 5)) = .ok (goInt 4) ((w.alloc (.cells #[bt x 7, bt x 6, bt x 5, bt x 4, bt x 3, bt x 2, bt x 1, bt x 0] 59)).alloc (.cells #[bt x 3, bt x 2, bt x 1, bt x 0] 5)) :=
          copy_tmp w _ #[.int .u8 0, .int .u8 0, .int .u8 0, .int .u8 0] 4 4 [bt x 3, bt x 2, bt x 1, bt x 0] rfl rfl (fun j v hj => by
            have hj' := (List.getElem?_eq_some_iff.1 hj).1
            simp only [List.length_cons, List.length_nil] at hj'
            rcases (by omega : j = 0 ∨ j = 1 ∨ j = 2 ∨ j = 3) with rfl | rfl | rfl | rfl <;> exact hj) (fun v hv => by
            simp only [List.mem_cons, List.mem_nil_iff, or_false] at hv
            rcases hv with rfl | rfl | rfl | rfl <;> rfl)
        go_wp2
        go_ret
        exact ⟨w.heap.size + 1, rfl, by omega, new_at _ (by simp) _, ((Below.refl _ _).alloc (Nat.le_refl _) _).alloc (by simp) _⟩
      · have hmk : ∀ W : World, (Instr.makeSlice 23 (.int .i64 8) (.int .i64 8)).run Yba.prog W = .ok (.slice (some ⟨W.heap.size, 0, none⟩) 8 8) (W.alloc (.cells #[.int .u8 0, .int .u8 0, .int .u8 0, .int .u8 0, .int .u8 0, .int .u8 0, .int .u8 0, .int .u8 0] 5)) := fun W => make_byte 8 (by decide) W
        have hcp : (Builtin.copy_ #[23, 23] 3 #[.slice (some ⟨w.heap.size + 1, 0, none⟩) 8 8, .slice (some ⟨w.heap.size, 0, none⟩) 8 8]).run Yba.prog ((w.alloc (.cells #[bt x 7, bt x 6, bt x 5, bt x 4, bt x 3, bt x 2, bt x 1, bt x 0] 59)).alloc (.cells #[.int .u8 0, .int .u8 0, .int .u8 0, .int .u8 0, .int .u8 0, .int .u8 0, .int .u8 0, .int .u8 0] 5)) = .ok (goInt 8) ((w.alloc (.cells #[bt x 7, bt x 6, bt x 5, bt x 4, bt x 3, bt x 2, bt x 1, bt x 0] 59)).alloc (.cells #[bt x 7, bt x 6, bt x 5, bt x 4, bt x 3, bt x 2, bt x 1, bt x 0] 5)) :=
          copy_tmp w _ #[.int .u8 0, .int .u8 0, .int .u8 0, .int .u8 0, .int .u8 0, .int .u8 0, .int .u8 0, .int .u8 0] 8 0 [bt x 7, bt x 6, bt x 5, bt x 4, bt x 3, bt x 2, bt x 1, bt x 0] rfl rfl (fun j v hj => by
            have hj' := (List.getElem?_eq_some_iff.1 hj).1
            simp only [List.length_cons, List.length_nil] at hj'
            rcases (by omega : j = 0 ∨ j = 1 ∨ j = 2 ∨ j = 3 ∨ j = 4 ∨ j = 5 ∨ j = 6 ∨ j = 7) with rfl | rfl | rfl | rfl | rfl | rfl | rfl | rfl <;> exact hj) (fun v hv => by
            simp only [List.mem_cons, List.mem_nil_iff, or_false] at hv
            rcases hv with rfl | rfl | rfl | rfl | rfl | rfl | rfl | rfl <;> rfl)
        go_wp2
        go_ret
        exact ⟨w.heap.size + 1, rfl, by omega, new_at _ (by simp) _, ((Below.refl _ _).alloc (Nat.le_refl _) _).alloc (by simp) _⟩

theorem conv_nil (w : World) : (convert 23 9 (.slice none 0 0)).run Yba.prog w = .ok (.string ⟨#[]⟩) w := by kernel_rfl
theorem conv_own {w : World} {B : Nat} {v : Value} {l : List UInt8} (h : Own w B v l) : (convert 23 9 v).run Yba.prog w = .ok (.string ⟨l.toArray⟩) w := by
  have hl := h.1
  rcases h.2 with ⟨e, h0⟩ | ⟨g, cap, cur, e, _, hh, hn, hc, hs, ht⟩
  · subst e
    obtain rfl : l = [] := List.eq_nil_of_length_eq_zero h0
    exact conv_nil w
  · subst e
    refine run_convert_bytes_back w 23 9 5 ⟨g, 0, none⟩ cap l Yba.underlying23 Yba.underlying5 Yba.underlying9 (fun j hj => ?_)
    rw [Addr.add_lit, Nat.zero_add]
    have e1 : w.cell? ⟨g, j, none⟩ = cur[j]? := by simp only [World.cell?, hh]; rfl
    have e2 : cur.toList[j]? = (cur.toList.take (l.length * 1))[j]? := by rw [List.getElem?_take, if_pos (by omega)]
    rw [e1, ← Array.getElem?_toList, e2, ht, List.getElem?_map, List.getElem?_eq_getElem hj]
    rfl

theorem equalC (v v' : Value) (l : List UInt8) (B B' : Nat) (w : World) (h : Own w B v l) (h' : Own w B' v' l) : Calls Yba.prog 8 #[v, v'] w fun e w' => e = .returned (.bool true) ∧ w' = w := by
  have r1 := conv_own h
  have r2 := conv_own h'
  obtain ⟨a, c, rfl⟩ := h.slice
  obtain ⟨a', c', rfl⟩ := h'.slice
  clear h h'
  go_enter Yba.func8, Yba.ntmps8
  go_wp2
  go_ret
  exact ⟨by simp, rfl⟩
end Go.Proofs.Ybulkatzw
