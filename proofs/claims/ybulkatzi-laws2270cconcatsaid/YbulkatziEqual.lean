/-
  bytes.Equal; the frame as bytes; LawS2270CInjective: the walk.
-/
import Derived.Test.YbulkatziAck
import Derived.Laws.IdiomStrings
namespace Go.Proofs.Ybulkatzi
open Go.RowKit Go.Lib
set_option linter.unusedVariables false
set_option linter.unusedSimpArgs false

def cellOf (b : UInt8) : Value := .int .u8 (b.toNat : Int)
def lo (v : Nat) : UInt8 := UInt8.ofNat (v % 256)
theorem cell_lo (v : Nat) : cellOf (lo v) = byt (v % 256) := by
  have : (UInt8.ofNat (v % 256)).toNat = v % 256 := by simp [UInt8.toNat_ofNat']
  simp only [cellOf, lo, this]
def be4b (v : Nat) : List UInt8 := [lo (v / 16777216), lo (v / 65536), lo (v / 256), lo v]
def be8b (v : Nat) : List UInt8 := [lo (v / 72057594037927936), lo (v / 281474976710656), lo (v / 1099511627776), lo (v / 4294967296), lo (v / 16777216), lo (v / 65536), lo (v / 256), lo v]
theorem be4_map (v : Nat) : be4 v = (be4b v).map cellOf := by simp only [be4, be4b, List.map_cons, List.map_nil, cell_lo]
theorem be8_map (v : Nat) : be8 v = (be8b v).map cellOf := by simp only [be8, be8b, List.map_cons, List.map_nil, cell_lo]
theorem str_map (s : ByteArray) : strCells s = s.data.toList.map cellOf := rfl

def bodyB (s : Nat → ByteArray) (t : Nat → Int) : Nat → List UInt8
  | 0 => []
  | k + 1 => bodyB s t k ++ (be4b (s k).size ++ ((s k).data.toList ++ be8b (u64of (t k))))
theorem body_map (s : Nat → ByteArray) (t : Nat → Int) (k : Nat) : body s t k = (bodyB s t k).map cellOf := by
  induction k with
  | zero => rfl
  | succ k ih => simp only [body, bodyB, List.map_append, ih, be4_map, be8_map, str_map]
theorem bodyB_length (s : Nat → ByteArray) (t : Nat → Int) (k : Nat) : (bodyB s t k).length = tot s k := by
  rw [← body_length s t k, body_map, List.length_map]

def frameB (s : Nat → ByteArray) (t : Nat → Int) (n : Nat) : List UInt8 := be4b (1 + tot s n) ++ (107 :: bodyB s t n)
theorem frame_map (s : Nat → ByteArray) (t : Nat → Int) (n : Nat) : be4 (1 + tot s n) ++ (byt 107 :: body s t n) = (frameB s t n).map cellOf := by
  simp only [frameB, List.map_append, List.map_cons, be4_map, body_map]; rfl
theorem frameB_length (s : Nat → ByteArray) (t : Nat → Int) (n : Nat) : (frameB s t n).length = 5 + tot s n := by
  simp only [frameB, List.length_append, List.length_cons, bodyB_length]; simp [be4b]; omega

/-- A row of bytes in the world. -/
def Row (w : World) (b o : Nat) (l : List UInt8) : Prop := ∀ j (hj : j < l.length), w.cell? ⟨b, o + j, none⟩ = some (.int .u8 (l[j].toNat : Int))

theorem Has.row {w : World} {F c : Nat} {l : List UInt8} (h : Has w F c (l.map cellOf)) : Row w F 0 l := by
  obtain ⟨rest, hh, _, _⟩ := h.open
  intro j hj
  have : w.cell? ⟨F, 0 + j, none⟩ = (l.map cellOf ++ rest).toArray[0 + j]? := by
    simp only [World.cell?, hh]; rfl
  rw [this, Nat.zero_add]
  simp [cellOf, List.getElem?_append_left, hj]

theorem conv (w : World) (b o c : Nat) (l : List UInt8) (h : Row w b o l) : (convert 26 9 (.slice (some ⟨b, o, none⟩) l.length c)).run Yba.prog w = .ok (.string ⟨l.toArray⟩) w :=
  run_convert_bytes_back w 26 9 5 ⟨b, o, none⟩ c l Yba.underlying26 Yba.underlying5 Yba.underlying9 (fun j hj => by rw [Addr.add_lit]; exact h j hj)

theorem same_bytes {l m : List UInt8} : (⟨l.toArray⟩ : ByteArray) = ⟨m.toArray⟩ ↔ l = m := by
  constructor
  · intro h; simpa using h
  · intro h; rw [h]

set_option maxHeartbeats 400000 in
theorem equal (b o c b' o' c' n n' : Nat) (l m : List UInt8) (hn : n = l.length) (hn' : n' = m.length) (w : World) (h : Row w b o l) (h' : Row w b' o' m) :
    Calls Yba.prog 8 #[.slice (some ⟨b, o, none⟩) n c, .slice (some ⟨b', o', none⟩) n' c'] w fun e w' => e = .returned (.bool (l == m)) ∧ w' = w := by
  subst hn hn'
  have r1 := conv w b o c l h
  have r2 := conv w b' o' c' m h'
  go_enter Yba.func8, Yba.ntmps8
  go_wp2
  go_ret
  exact ⟨rfl, rfl⟩

theorem lo_inj {v u : Nat} (h : lo v = lo u) : v % 256 = u % 256 := by
  have := congrArg UInt8.toNat h
  simpa [lo, UInt8.toNat_ofNat'] using this
theorem be8b_inj {v u : Nat} (hv : v < 18446744073709551616) (hu : u < 18446744073709551616) (h : be8b v = be8b u) : v = u := by
  simp only [be8b, List.cons.injEq, and_true] at h
  obtain ⟨h1, h2, h3, h4, h5, h6, h7, h8⟩ := h
  have g1 := lo_inj h1
  have g2 := lo_inj h2
  have g3 := lo_inj h3
  have g4 := lo_inj h4
  have g5 := lo_inj h5
  have g6 := lo_inj h6
  have g7 := lo_inj h7
  have g8 := lo_inj h8
  omega
theorem u64of_inj {x y : Int} (hx1 : -9223372036854775808 ≤ x) (hx2 : x ≤ 9223372036854775807) (hy1 : -9223372036854775808 ≤ y) (hy2 : y ≤ 9223372036854775807) (h : u64of x = u64of y) : x = y := by
  unfold u64of at h; omega

/-- The frames of two single stamps are equal exactly when the stamps are. -/
theorem frame_inj {s1 s2 : ByteArray} {t1 t2 : Int} (hx1 : -9223372036854775808 ≤ t1) (hx2 : t1 ≤ 9223372036854775807) (hy1 : -9223372036854775808 ≤ t2) (hy2 : t2 ≤ 9223372036854775807)
    (h : frameB (fun _ => s1) (fun _ => t1) 1 = frameB (fun _ => s2) (fun _ => t2) 1) : s1 = s2 ∧ t1 = t2 := by
  have hl := congrArg List.length h
  rw [frameB_length, frameB_length] at hl
  simp only [tot] at hl
  have hsz : s1.size = s2.size := by omega
  have hd : s1.data.toList.length = s2.data.toList.length := by simpa using hsz
  unfold frameB at h
  have h1 := (List.append_inj h (by simp [be4b])).2
  simp only [List.cons.injEq, true_and] at h1
  simp only [bodyB, List.nil_append] at h1
  have h2 := (List.append_inj h1 (by simp [be4b])).2
  obtain ⟨h3, h4⟩ := List.append_inj h2 hd
  have h5 := u64of_inj hx1 hx2 hy1 hy2 (be8b_inj (u64of_lt _) (u64of_lt _) h4)
  refine ⟨?_, h5⟩
  cases s1; cases s2
  simp only [ByteArray.mk.injEq]
  exact Array.ext' h3
end Go.Proofs.Ybulkatzi
