/-
  The encoder: NewEncoderSize, String, Int64, Frame.
-/
import Derived.Test.YbulkatziEnc
import Derived.Deep.RegionWith
namespace Go.Proofs.Ybulkatzi
open Go.RowKit Go.Lib
set_option linter.unusedVariables false
set_option linter.unusedSimpArgs false

theorem wpList_string_fits {P : Program} (w : World) {ops : Array Oper} {rest : List Oper} {o : Oper} {a : Act} {Q : Exit → Act → World → Prop}
    (hg : o.guard = none) (sl x : Operand) (t u : TypeId) (hop : o.op = Op.call { callee := Callee.builtin Builtin.append, args := #[sl, x], argTypes := #[t, u] })
    (i : TypeInfo) (ht : P.underlying t = some (.slice 5)) (hu : P.underlying u = some .string) (hi : P.info? 5 = some i) (hs1 : i.size = 1)
    (F c n : Nat) (xs : List Value) (hs : a.eval sl = .slice (some ⟨F, 0, none⟩) n c) (hn : n = xs.length) (hown : Has w F c xs) (s : ByteArray) (hx : a.eval x = .string s) (hroom : n + s.size ≤ c)
    (hK : ∀ w', Has w' F c (xs ++ strCells s) → w.grownBy w' (some F) → wpList P ops Q rest (a.put o.dst (.slice (some ⟨F, 0, none⟩) (n + s.size) c)) w') :
    wpList P ops Q (o :: rest) a w := by
  refine wpList_plain hg fun K hK' => ?_
  subst hn
  obtain ⟨hxl, hown⟩ := hown
  rcases hown with ⟨h, _⟩ | ⟨g, cap, cur, hv, hbg, hgh, hnc, hcm, hcs, htake⟩
  · cases h
  · cases hv
    have hcs' : cur.size = c := by simpa using hcs
    have hr := run_append_room_string (P := P) w t u o.type 5 i ht hu hi hs1 F xs.length c cur hgh s hroom (by omega)
    unfold Oper.wp
    simp [execOp, hop, resolve, invoke, builtin, hs, hx, hr, Result.andThen]
    refine hK' _ _ (hK _ ⟨by simp, .inr ⟨F, c, _, rfl, Nat.zero_le _, setRow_heap w F cur _ 5 _ hgh, ?_, hcm, ?_, ?_⟩⟩ ⟨rfl, rfl, rfl, by simp, fun k _ hk => setRow_other w F k _ (fun e => hk (by rw [e]))⟩)
    · simpa [strCells_length] using hroom
    · simp only [List.size_toArray, List.length_append, List.length_take, List.length_drop, Array.length_toList, strCells_length]
      omega
    · have ht' : cur.toList.take xs.length = xs := by simpa using htake
      have hlen : (xs ++ strCells s).length * 1 = (xs ++ strCells s).length := by simp
      rw [ht', hlen, ← List.append_assoc]
      exact List.take_left

theorem Has.of {w : World} {F c : Nat} {xs rest : List Value} (h : w.heap[F]? = some (.cells (xs ++ rest).toArray 5 (0, 0))) (hl : xs.length + rest.length = c) (hm : c ≤ maxLen) : Has w F c xs :=
  ⟨by simp, .inr ⟨F, c, _, rfl, Nat.zero_le _, h, by omega, hm, by simp; omega, by simp⟩⟩
theorem Has.open {w : World} {F c : Nat} {xs : List Value} (h : Has w F c xs) : ∃ rest, w.heap[F]? = some (.cells (xs ++ rest).toArray 5 (0, 0)) ∧ xs.length + rest.length = c ∧ c ≤ maxLen := by
  rcases h.2 with ⟨h, _⟩ | ⟨g, cap, cur, hv, hbg, hgh, hnc, hcm, hcs, htake⟩
  · cases h
  · cases hv
    have hcs' : cur.size = c := by simpa using hcs
    have ht' : cur.toList.take xs.length = xs := by simpa using htake
    refine ⟨cur.toList.drop xs.length, ?_, ?_, hcm⟩
    · have e : xs ++ cur.toList.drop xs.length = cur.toList := by
        conv => lhs; arg 1; rw [← ht']
        exact List.take_append_drop _ _
      rw [e, hgh]
    · simp only [List.length_drop, Array.length_toList]; omega

theorem Has.of_block {w w' : World} {F c : Nat} {xs : List Value} (h : Has w F c xs) (hb : w'.heap[F]? = w.heap[F]?) : Has w' F c xs := by
  obtain ⟨rest, h1, h2, h3⟩ := h.open
  exact Has.of (hb.trans h1) h2 h3

/-- An Encoder at E whose frame lies in block F. -/
structure EncAt (w : World) (E F c : Nat) (xs : List Value) : Prop where
  box : w.heap[E]? = some (.cells #[.slice (some ⟨F, 0, none⟩) xs.length c] 37 (0, 0))
  has : Has w F c xs
  ne : E ≠ F

theorem make_frame (n : Nat) (hn : n ≤ 1099511627776) (w : World) :
    (Instr.makeSlice 26 (.int .i64 5) (.int .i64 (5 + (n : Int)))).run Yba.prog w = .ok (.slice (some ⟨w.heap.size, 0, none⟩) 5 (5 + n))
      (w.alloc (.cells (byt 0 :: byt 0 :: byt 0 :: byt 0 :: byt 0 :: List.replicate n (byt 0)).toArray 5)) := by
  obtain ⟨i, hi, hs, hby, hz⟩ := info5
  have h := run_make (P := Yba.prog) w 26 5 i (.int .u8 0) Yba.underlying26 hi hz .i64 .i64 5 (5 + (n : Int)) (by omega) (by omega) (by rw [hby]; omega) (by omega)
  have e1 : (5 + (n : Int)).toNat = 5 + n := by omega
  have e2 : madeCells (Value.int .u8 0).cells ((5 + n) * i.size) = (byt 0 :: byt 0 :: byt 0 :: byt 0 :: byt 0 :: List.replicate n (byt 0)).toArray := by
    apply Array.ext'
    rw [hs, Nat.mul_one]
    have : (Value.int .u8 0).cells = #[Value.int .u8 0] := rfl
    rw [this, toList_madeCells_one, Nat.add_comm]
    rfl
  rw [h, e1, e2]
  rfl

set_option maxHeartbeats 400000 in
theorem newEnc (kind : Int) (n : Nat) (hn : n ≤ 1099511627776) (w : World) :
    Calls Yba.prog 9 #[.int .u8 kind, .int .i64 (n : Int)] w fun e w' =>
      e = .returned (.pointer (some ⟨w.heap.size + 1, 0, none⟩)) ∧ EncAt w' (w.heap.size + 1) w.heap.size (5 + n) [byt 0, byt 0, byt 0, byt 0, .int .u8 kind] ∧ Below w.heap.size w w' ∧ w'.heap.size = w.heap.size + 2 := by
  have hmk := make_frame n hn w
  go_enter Yba.func9, Yba.ntmps9
  go_wp2
  go_ret
  refine ⟨rfl, ⟨?_, Has.alloc (Has.of (rest := List.replicate n (byt 0)) (heap_alloc_new _ _) (by simp) (by unfold maxLen; omega)) _, by omega⟩, ((Below.refl _ _).alloc (Nat.le_refl _) _).alloc (by simp) _, by simp⟩
  have := heap_alloc_new (w.alloc (.cells (byt 0 :: byt 0 :: byt 0 :: byt 0 :: Value.int .u8 kind :: List.replicate n (byt 0)).toArray 5)) (.cells #[.slice (some ⟨w.heap.size, 0, none⟩) 5 (5 + n)] 37)
  simpa using this

theorem u32_len (n : Nat) (h : n < 4294967296) : IntKind.u32.wrap (n : Int) = (n : Int) := by
  simp [IntKind.wrap, IntKind.bits, IntKind.signed]; omega

theorem box_cell {w : World} {E : Nat} {v : Value} (h : w.heap[E]? = some (.cells #[v] 37 (0, 0))) : w.cell? ⟨E, 0, none⟩ = some v ∧ w.frozen? ⟨E, 0, none⟩ = false := by
  simp [World.cell?, World.frozen?, h]

set_option maxHeartbeats 400000 in
theorem encString (E F c : Nat) (xs : List Value) (s : ByteArray) (hs : s.size < 4294967296) (hc : xs.length + 4 + s.size ≤ c) (w : World) (h : EncAt w E F c xs) :
    Calls Yba.prog 10 #[.pointer (some ⟨E, 0, none⟩), .string s] w fun e w' =>
      e = .returned (.tuple #[]) ∧ EncAt w' E F c (xs ++ be4 s.size ++ strCells s) ∧ Frm (fun k => k = E ∨ k = F) w w' := by
  obtain ⟨i, hi, hsz, hby, hz⟩ := info5
  have c0 := (box_cell h.box).1
  have f0 := (box_cell h.box).2
  have hEl := lt_of_cell c0
  have hne := h.ne
  have hu := u32_len s.size hs
  go_enter Yba.func10, Yba.ntmps10
  go_wp2
  go_region_with (go_at_call 13; refine (app32 F c s.size xs hs (by omega) _ ?_).mono ?_; exact h.has; rintro e w1 ⟨rfl, hH, hfr⟩; have c1 := (hfr.cell (p := ⟨E, 0, none⟩) hEl hne).trans c0; have f1 := (hfr.frozen (p := ⟨E, 0, none⟩) hEl hne).trans f0)
  all_goals
    have hl4 : Hid (xs.length + 4 = (xs ++ be4 s.size).length) := by show xs.length + 4 = _; simp [be4]
    have hH2 : Has (w1.setCell ⟨E, 0, none⟩ (.slice (some ⟨F, 0, none⟩) (xs.length + 4) c)) F c (xs ++ be4 s.size) := hH.of_block (Below.heap_setCell _ _ _ _ (fun e => hne e.symm))
    have hb1 : w1.heap[E]? = some (.cells #[.slice (some ⟨F, 0, none⟩) xs.length c] 37 (0, 0)) := (hfr.block E hEl hne).trans h.box
    have hb2 := heap_setCell_same w1 E 0 _ 37 (.slice (some ⟨F, 0, none⟩) (xs.length + 4) c) hb1
    have hf2 : Hid (Frm (fun k => k = E ∨ k = F) w (w1.setCell ⟨E, 0, none⟩ (.slice (some ⟨F, 0, none⟩) (xs.length + 4) c))) :=
      Frm.setCell (Frm.trans ((Frm.refl _ w).drew) (hfr.weaken fun k _ e => .inr e)) (.inl rfl) _
    generalize w1.setCell ⟨E, 0, none⟩ (.slice (some ⟨F, 0, none⟩) (xs.length + 4) c) = w2 at hH2 hb2 hf2 ⊢
    have c2 := (box_cell hb2).1
    have f2 := (box_cell hb2).2
    have hEl2 := lt_of_cell c2
    have hHc : Hid (Has w2 F c (xs ++ be4 s.size)) := hH2
    clear hH hfr c1 f1 hb1 hH2
    go_wp2_with (at_builtin; refine wpList_string_fits _ rfl (.tmp 20) (.tmp 21) 26 9 rfl i Yba.underlying26 Yba.underlying9 hi hsz F c (xs.length + 4) (xs ++ be4 s.size) rfl hl4.out hHc.out s rfl hc ?_; intro w3 hH3 hg3; have c3 := (hg3.cell c2 (by simpa using hne)); have f3 := (World.frozen?_of_block (a := ⟨E, 0, none⟩) (hg3.block E hEl2 (by simpa using hne))).trans f2)
    go_end0
    have hb3 : w3.heap[E]? = _ := (hg3.block E hEl2 (by simpa using hne)).trans hb2
    have hb4 := heap_setCell_same w3 E 0 _ 37 (.slice (some ⟨F, 0, none⟩) (xs.length + 4 + s.size) c) hb3
    refine ⟨rfl, ⟨?_, hH3.of_block (Below.heap_setCell _ _ _ _ (fun e => hne e.symm)), hne⟩, Frm.setCell (hf2.out.trans (Frm.of_grown hg3 (.inr rfl))) (.inl rfl) _⟩
    have hl5 : (xs ++ be4 s.size ++ strCells s).length = xs.length + 4 + s.size := by rw [List.length_append, ← hl4.out, strCells_length]
    rw [hb4, hl5]
    rfl

set_option maxHeartbeats 400000 in
theorem encInt (E F c : Nat) (xs : List Value) (x : Int) (u : Nat) (hu : u < 18446744073709551616) (hx : IntKind.u64.wrap x = (u : Int)) (hc : xs.length + 8 ≤ c) (w : World) (h : EncAt w E F c xs) :
    Calls Yba.prog 11 #[.pointer (some ⟨E, 0, none⟩), .int .i64 x] w fun e w' =>
      e = .returned (.tuple #[]) ∧ EncAt w' E F c (xs ++ be8 u) ∧ Frm (fun k => k = E ∨ k = F) w w' := by
  have c0 := (box_cell h.box).1
  have f0 := (box_cell h.box).2
  have hEl := lt_of_cell c0
  have hne := h.ne
  go_enter Yba.func11, Yba.ntmps11
  go_wp2
  go_region_with (go_at_call 14; refine (app64 F c u xs hu hc _ ?_).mono ?_; exact h.has; rintro e w1 ⟨rfl, hH, hfr⟩; have c1 := (hfr.cell (p := ⟨E, 0, none⟩) hEl hne).trans c0; have f1 := (hfr.frozen (p := ⟨E, 0, none⟩) hEl hne).trans f0)
  all_goals
    go_wp2
    go_end0
    have hb1 : w1.heap[E]? = some (.cells #[.slice (some ⟨F, 0, none⟩) xs.length c] 37 (0, 0)) := (hfr.block E hEl hne).trans h.box
    have hb2 := heap_setCell_same w1 E 0 _ 37 (.slice (some ⟨F, 0, none⟩) (xs.length + 8) c) hb1
    refine ⟨rfl, ⟨?_, hH.of_block (Below.heap_setCell _ _ _ _ (fun e => hne e.symm)), hne⟩, Frm.setCell (Frm.trans ((Frm.refl _ w).drew) (hfr.weaken fun k _ e => .inr e)) (.inl rfl) _⟩
    have hl5 : (xs ++ be8 u).length = xs.length + 8 := by simp [be8]
    rw [hb2, hl5]
    rfl

set_option maxHeartbeats 400000 in
theorem encFrame (E F c : Nat) (a b d e : Value) (ys : List Value) (hl : ys.length < 4294967296) (w : World) (h : EncAt w E F c (a :: b :: d :: e :: ys)) :
    Calls Yba.prog 12 #[.pointer (some ⟨E, 0, none⟩)] w fun e w' =>
      e = .returned (.slice (some ⟨F, 0, none⟩) (4 + ys.length) c) ∧ Has w' F c (be4 ys.length ++ ys) ∧ Frm (fun k => k = F) w w' := by
  have c0 := (box_cell h.box).1
  have f0 := (box_cell h.box).2
  have hEl := lt_of_cell c0
  have hne := h.ne
  obtain ⟨rest, hF, hlen, hmx⟩ := h.has.open
  have hlx : (a :: b :: d :: e :: ys).length = 4 + ys.length := by simp; omega
  rw [hlx] at c0 hlen
  have hu := u32_len ys.length hl
  have h64 : IntKind.i64.wrap (ys.length : Int) = (ys.length : Int) := by rw [IntKind.wrap_i64]; omega
  have t4 : (4 + (ys.length : Int)) - 4 = (ys.length : Int) := by omega
  have hF' : w.heap[F]? = some (.cells (a :: b :: d :: e :: (ys ++ rest)).toArray 5 (0, 0)) := hF
  clear hF
  go_enter Yba.func12, Yba.ntmps12
  go_wp2
  go_region_with (go_at_call 15; refine (put32 F c ys.length (4 + ys.length) a b d e (ys ++ rest) hl (by omega) _ ?_).mono ?_; exact hF'; rintro e w1 ⟨rfl, hH, hfr⟩; have c1 := (hfr.cell (p := ⟨E, 0, none⟩) hEl hne).trans c0; have f1 := (hfr.frozen (p := ⟨E, 0, none⟩) hEl hne).trans f0)
  all_goals
    go_wp2
    go_ret
    refine ⟨rfl, Has.of (rest := rest) (by rw [hH, List.append_assoc]) (by rw [List.length_append]; simp [be4]; omega) hmx, Frm.trans ((Frm.refl _ w).drew) hfr⟩
end Go.Proofs.Ybulkatzi
