/-
  FnMatchComparesLiteralsByDecodedBytes: the walk.
-/
import Derived.Test.Qxb6001154aLit
import Derived.Test.Qxb6001154aLawDw
namespace Go.Proofs.Qxb6001154a.fnMatchComparesLiteralsByDecodedBytes
open Go.RowKit
open fnMatchDoubleWildcardBindsTheRest (getD_at rg_congr upTo upTo_step wpList_copy_strs sr_take)

/-- The case of the hex digits at segment i. -/
def up (u : Bool) (i : Nat) : Bool := if i % 2 = 1 then !u else u
/-- The texts, encoded anew. -/
def res (u : Bool) (ss : List ByteArray) : List ByteArray := ss.mapIdx fun i s => en (up u i) (us false s)
theorem res_length (u : Bool) (ss : List ByteArray) : (res u ss).length = ss.length := by unfold res; rw [List.length_mapIdx]
theorem res_at (u : Bool) (ss : List ByteArray) (j : Nat) (h : j < (res u ss).length) (h2 : j < ss.length) : (res u ss)[j] = en (up u j) (us false ss[j]) := by
  have : (res u ss)[j]? = some (en (up u j) (us false ss[j])) := by
    unfold res
    rw [List.getElem?_mapIdx, List.getElem?_eq_getElem h2]
    rfl
  rw [List.getElem?_eq_getElem h] at this
  exact Option.some.inj this

theorem us_len (k : Bool) (s : ByteArray) (h : Pl.wf s.data.toList = true) : (us k s).size ≤ s.size := by
  rw [Lib.size_eq, Lib.size_eq, us_data]
  exact Pl.un_le k _ h
theorem en_len (u : Bool) (s : ByteArray) : (en u s).size = 3 * s.size := by
  rw [Lib.size_eq, Lib.size_eq, en_data, Pl.enc_length]
theorem us_en (u : Bool) (s : ByteArray) : us false (en u s) = s := by
  show (⟨(Pl.un false (en u s).data.toList).toArray⟩ : ByteArray) = s
  rw [en_data, Pl.un_enc_false, Lib.mk_data]

/-- Another encoding of the same bytes is found the same. -/
theorem same_en (u : Bool) (s : ByteArray) (hz : s.size ≤ 1048576) (hw : Pl.wf s.data.toList = true) : Same (en u (us false s)) s := fun w =>
  same_true _ _ (by rw [en_len]; have := us_len false s hw; omega) (by omega) (Pl.wf_enc _ _) hw (us_en _ _) w

theorem res_same (u : Bool) (ss : List ByteArray) (hf : fit ss) (hw : allwf ss = true) : ∀ j (h1 : j < (res u ss).length) (h2 : j < ss.length), Same (res u ss)[j] ss[j] := by
  intro j h1 h2
  rw [res_at u ss j h1 h2]
  exact same_en _ _ (hf _ (List.getElem_mem h2)) (allwf_get hw h2)

theorem row_other {w : World} {g : Nat} {ss : List ByteArray} (h : RowS w g ss) (a : Addr) (ha : g ≠ a.block) (v : Value) : RowS (w.setCell a v) g ss := by
  show (w.setCell a v).heap[g]? = _
  rw [heap_setCell_other w a g v ha]
  exact h

theorem step6 {w4 w5 wr w7 w8 : World} {ss0 L : List ByteArray} {j : Nat} {s : ByteArray} (l45 : w4.heap.size < w5.heap.size) (R7 : RG wr w4.heap.size ss0.length (fun _ => 0) (upTo ss0 j)) (R8 : RowS wr w5.heap.size L) (HB : Below w4.heap.size w4 wr) (hlt : j < ss0.length) (hs : ss0[j] = s)
    (hb7 : Below ((wr.setCell ⟨w4.heap.size, j * 2, none⟩ (.int .i64 0)).setCell ⟨w4.heap.size, j * 2 + 1, none⟩ (.string s)).heap.size ((wr.setCell ⟨w4.heap.size, j * 2, none⟩ (.int .i64 0)).setCell ⟨w4.heap.size, j * 2 + 1, none⟩ (.string s)) w7) (hb8 : Below w7.heap.size w7 w8) :
    RG w8 w4.heap.size ss0.length (fun _ => 0) (upTo ss0 (j + 1)) ∧ RowS w8 w5.heap.size L ∧ Below w4.heap.size w4 w8 := by
  have hset := rg_congr (R7.set hlt 0 s) (K' := fun _ => 0) (T' := upTo ss0 (j + 1)) (fun i _ => by split <;> rfl) (fun i _ => upTo_step ss0 j hlt s hs i)
  have hrow : RowS ((wr.setCell ⟨w4.heap.size, j * 2, none⟩ (.int .i64 0)).setCell ⟨w4.heap.size, j * 2 + 1, none⟩ (.string s)) w5.heap.size L := row_other (row_other R8 _ (by simp; omega) _) _ (by simp; omega) _
  have hB : Below w4.heap.size w4 ((wr.setCell ⟨w4.heap.size, j * 2, none⟩ (.int .i64 0)).setCell ⟨w4.heap.size, j * 2 + 1, none⟩ (.string s)) := (HB.setCell (Nat.le_refl _) _).setCell (Nat.le_refl _) _
  generalize (wr.setCell ⟨w4.heap.size, j * 2, none⟩ (.int .i64 0)).setCell ⟨w4.heap.size, j * 2 + 1, none⟩ (.string s) = V at *
  have hb := hb7.trans (hb8.mono hb7.size)
  exact ⟨hset.later hb hset.lt, hrow.later hb hrow.lt, hB.trans (hb.mono hB.size)⟩

/-- A path's three fields in a block of its own. -/
def P3 (w : World) (b : Nat) (x y z : Value) : Prop := w.heap[b]? = some (.cells #[x, y, z] 40 (0, 0))
theorem P3.lt {w : World} {b : Nat} {x y z : Value} (h : P3 w b x y z) : b < w.heap.size := (Array.getElem?_eq_some_iff.1 h).1
theorem P3.later {w w' : World} {b : Nat} {x y z : Value} (h : P3 w b x y z) (hb : Below w.heap.size w w') : P3 w' b x y z := by
  show w'.heap[b]? = _
  rw [hb.block b h.lt]
  exact h
theorem P3.cells {w : World} {b : Nat} {x y z : Value} (h : P3 w b x y z) : w.cell? ⟨b, 0, none⟩ = some x ∧ w.cell? ⟨b, 1, none⟩ = some y ∧ w.cell? ⟨b, 2, none⟩ = some z := by
  refine ⟨?_, ?_, ?_⟩
  all_goals rw [cell_of_row w b _ _ 40 (0, 0) h]; rfl
theorem P3.fz {w : World} {b : Nat} {x y z : Value} (h : P3 w b x y z) (o : Nat) : w.frozen? ⟨b, o, none⟩ = false := frozen_of_row w b o _ 40 h
theorem P3.other {w : World} {b : Nat} {x y z : Value} (h : P3 w b x y z) {c : Nat} (hc : b ≠ c) (x' y' z' : Value) : P3 (((w.setCell ⟨c, 0, none⟩ x').setCell ⟨c, 1, none⟩ y').setCell ⟨c, 2, none⟩ z') b x y z := by
  show (((w.setCell ⟨c, 0, none⟩ x').setCell ⟨c, 1, none⟩ y').setCell ⟨c, 2, none⟩ z').heap[b]? = _
  rw [heap_setCell_other _ _ _ _ hc, heap_setCell_other _ _ _ _ hc, heap_setCell_other _ _ _ _ hc]
  exact h
theorem P3.set {w : World} {b : Nat} {x y z : Value} (h : P3 w b x y z) (x' y' z' : Value) : P3 (((w.setCell ⟨b, 0, none⟩ x').setCell ⟨b, 1, none⟩ y').setCell ⟨b, 2, none⟩ z') b x' y' z' := by
  have h1 := heap_setCell_same w b 0 _ 40 x' h
  have h2 := heap_setCell_same _ b 1 _ 40 y' h1
  have h3 := heap_setCell_same _ b 2 _ 40 z' h2
  exact h3
theorem below_set3 {B : Nat} {w v : World} (h : Below B w v) {b : Nat} (hb : B ≤ b) (x y z : Value) : Below B w (((v.setCell ⟨b, 0, none⟩ x).setCell ⟨b, 1, none⟩ y).setCell ⟨b, 2, none⟩ z) :=
  ((h.setCell hb _).setCell hb _).setCell hb _

/-- What stands once the template and the longer row are laid. -/
structure S6 (w4 w5 wr w : World) (k : Nat) (u : Bool) (ss0 L : List ByteArray) (vb : ByteArray) : Prop where
  row : RowS w (wr.heap.size + 1) L
  tm : TmplL w wr.heap.size w4.heap.size k ss0 vb
  re : RowS w w5.heap.size (res u ss0)
  bel : Below w4.heap.size w4 w

theorem stage6 {w4 w5 wr w10 : World} {k : Nat} {u : Bool} {ss0 L : List ByteArray} {vb : ByteArray} (l45 : w4.heap.size < w5.heap.size) (l5 : w5.heap.size < wr.heap.size) (R7 : RG wr w4.heap.size ss0.length (fun _ => 0) (upTo ss0 ss0.length)) (R9 : RowS wr w5.heap.size (res u ss0)) (HB : Below w4.heap.size w4 wr) (hk : ss0.length = k + 1)
    (hrow : RowS w10 (wr.alloc (.cells #[.slice (some ⟨w4.heap.size, 0, none⟩) (k + 1) (k + 1), .slice none 0 0, .string vb] 38)).heap.size L)
    (hb : Below (wr.alloc (.cells #[.slice (some ⟨w4.heap.size, 0, none⟩) (k + 1) (k + 1), .slice none 0 0, .string vb] 38)).heap.size (wr.alloc (.cells #[.slice (some ⟨w4.heap.size, 0, none⟩) (k + 1) (k + 1), .slice none 0 0, .string vb] 38)) w10) :
    S6 w4 w5 wr w10 k u ss0 L vb := by
  have e0 : (wr.alloc (.cells #[.slice (some ⟨w4.heap.size, 0, none⟩) (k + 1) (k + 1), .slice none 0 0, .string vb] 38)).cell? ⟨wr.heap.size, 0, none⟩ = some (.slice (some ⟨w4.heap.size, 0, none⟩) (k + 1) (k + 1)) := by simp
  have e1 : (wr.alloc (.cells #[.slice (some ⟨w4.heap.size, 0, none⟩) (k + 1) (k + 1), .slice none 0 0, .string vb] 38)).cell? ⟨wr.heap.size, 1, none⟩ = some (.slice none 0 0) := by simp
  have e2 : (wr.alloc (.cells #[.slice (some ⟨w4.heap.size, 0, none⟩) (k + 1) (k + 1), .slice none 0 0, .string vb] 38)).cell? ⟨wr.heap.size, 2, none⟩ = some (.string vb) := by simp
  have hz : (wr.alloc (.cells #[.slice (some ⟨w4.heap.size, 0, none⟩) (k + 1) (k + 1), .slice none 0 0, .string vb] 38)).heap.size = wr.heap.size + 1 := by simp
  have hB : Below wr.heap.size wr (wr.alloc (.cells #[.slice (some ⟨w4.heap.size, 0, none⟩) (k + 1) (k + 1), .slice none 0 0, .string vb] 38)) := (Below.refl _ _).alloc (Nat.le_refl _) _
  generalize wr.alloc (.cells #[.slice (some ⟨w4.heap.size, 0, none⟩) (k + 1) (k + 1), .slice none 0 0, .string vb] 38) = V at *
  rw [hz] at hrow hb
  have up1 : ∀ o, w10.cell? ⟨wr.heap.size, o, none⟩ = V.cell? ⟨wr.heap.size, o, none⟩ := fun o => (bcell hb).1 _ o (by omega)
  have hB2 : Below wr.heap.size wr w10 := hB.trans (hb.mono (by omega))
  have hR := R7.later hB2 R7.lt
  refine ⟨hrow, ⟨(up1 0).trans e0, (up1 1).trans e1, (up1 2).trans e2, fun j hj => hR.c0 j (by omega), fun j hj => ?_⟩, R9.later hB2 R9.lt, HB.trans (hB2.mono (by omega))⟩
  rw [hR.c1 j hj]
  unfold upTo
  rw [if_pos hj, getD_at ss0 j hj]

theorem S6.rowed {w4 w5 wr w w' : World} {k : Nat} {u : Bool} {ss0 L L' : List ByteArray} {vb : ByteArray} (h : S6 w4 w5 wr w k u ss0 L vb) (l45 : w4.heap.size < w5.heap.size) (l5 : w5.heap.size < wr.heap.size) (hrow : RowS w' (wr.heap.size + 1) L') (hb : Below (wr.heap.size + 1) w w') : S6 w4 w5 wr w' k u ss0 L' vb :=
  ⟨hrow, h.tm.laterD hb (by omega) (by omega), h.re.later hb (by omega), h.bel.trans (hb.mono (by omega))⟩

theorem S6.fin {w4 w5 wr w w' : World} {k : Nat} {u : Bool} {ss0 L : List ByteArray} {vb : ByteArray} (h : S6 w4 w5 wr w k u ss0 L vb) (hb : Below w.heap.size w w') : TmplL w' wr.heap.size w4.heap.size k ss0 vb ∧ SR w' (some ⟨w5.heap.size, 0, none⟩) (res u ss0) ∧ Below w4.heap.size w4 w' :=
  ⟨h.tm.later hb, (h.re.later hb h.re.lt).sr, h.bel.trans (hb.mono h.bel.size)⟩

theorem three (w : World) (Z : Obj) (hZ : Z = .cells #[.slice none 0 0, .string ⟨#[]⟩, .slice none 0 0] 40) : P3 (((w.alloc Z).alloc Z).alloc Z) w.heap.size (.slice none 0 0) (.string ⟨#[]⟩) (.slice none 0 0) ∧ P3 (((w.alloc Z).alloc Z).alloc Z) (w.heap.size + 1) (.slice none 0 0) (.string ⟨#[]⟩) (.slice none 0 0) ∧ P3 (((w.alloc Z).alloc Z).alloc Z) (w.heap.size + 1 + 1) (.slice none 0 0) (.string ⟨#[]⟩) (.slice none 0 0) ∧ Below w.heap.size w (((w.alloc Z).alloc Z).alloc Z) := by
  subst hZ
  have h1 : ∀ w : World, P3 (w.alloc (.cells #[.slice none 0 0, .string ⟨#[]⟩, .slice none 0 0] 40)) w.heap.size (.slice none 0 0) (.string ⟨#[]⟩) (.slice none 0 0) := fun w => heap_alloc_new w _
  have hb : ∀ w : World, Below w.heap.size w (w.alloc (.cells #[.slice none 0 0, .string ⟨#[]⟩, .slice none 0 0] 40)) := fun w => (Below.refl _ _).alloc (Nat.le_refl _) _
  have hs : ∀ w : World, (w.alloc (.cells #[.slice none 0 0, .string ⟨#[]⟩, .slice none 0 0] 40)).heap.size = w.heap.size + 1 := fun w => by simp
  have p2 := h1 (w.alloc (.cells #[.slice none 0 0, .string ⟨#[]⟩, .slice none 0 0] 40))
  have p3 := h1 ((w.alloc (.cells #[.slice none 0 0, .string ⟨#[]⟩, .slice none 0 0] 40)).alloc (.cells #[.slice none 0 0, .string ⟨#[]⟩, .slice none 0 0] 40))
  rw [hs] at p2
  rw [hs, hs] at p3
  exact ⟨((h1 w).later (hb _)).later (hb _), p2.later (hb _), p3, ((hb w).trans ((hb _).mono (by rw [hs]; omega))).trans ((hb _).mono (by rw [hs, hs]; omega))⟩

theorem open6 {w4 w5 wr w11 : World} {k : Nat} {u : Bool} {ss0 L : List ByteArray} {vb : ByteArray} (h : S6 w4 w5 wr w11 k u ss0 L vb) (l45 : w4.heap.size < w5.heap.size) (l5 : w5.heap.size < wr.heap.size) :
    P3 ((((w11.setCell ⟨wr.heap.size + 1, k + 1, none⟩ (.string ⟨#[120]⟩)).alloc (.cells #[.slice none 0 0, .string ⟨#[]⟩, .slice none 0 0] 40)).alloc (.cells #[.slice none 0 0, .string ⟨#[]⟩, .slice none 0 0] 40)).alloc (.cells #[.slice none 0 0, .string ⟨#[]⟩, .slice none 0 0] 40)) w11.heap.size (.slice none 0 0) (.string ⟨#[]⟩) (.slice none 0 0) ∧ P3 ((((w11.setCell ⟨wr.heap.size + 1, k + 1, none⟩ (.string ⟨#[120]⟩)).alloc (.cells #[.slice none 0 0, .string ⟨#[]⟩, .slice none 0 0] 40)).alloc (.cells #[.slice none 0 0, .string ⟨#[]⟩, .slice none 0 0] 40)).alloc (.cells #[.slice none 0 0, .string ⟨#[]⟩, .slice none 0 0] 40)) (w11.heap.size + 1) (.slice none 0 0) (.string ⟨#[]⟩) (.slice none 0 0) ∧ P3 ((((w11.setCell ⟨wr.heap.size + 1, k + 1, none⟩ (.string ⟨#[120]⟩)).alloc (.cells #[.slice none 0 0, .string ⟨#[]⟩, .slice none 0 0] 40)).alloc (.cells #[.slice none 0 0, .string ⟨#[]⟩, .slice none 0 0] 40)).alloc (.cells #[.slice none 0 0, .string ⟨#[]⟩, .slice none 0 0] 40)) (w11.heap.size + 1 + 1) (.slice none 0 0) (.string ⟨#[]⟩) (.slice none 0 0) ∧ ∃ w12, S6 w4 w5 wr w12 k u ss0 (L.set (k + 1) ⟨#[120]⟩) vb ∧ w12.heap.size = w11.heap.size ∧ Below w12.heap.size w12 ((((w11.setCell ⟨wr.heap.size + 1, k + 1, none⟩ (.string ⟨#[120]⟩)).alloc (.cells #[.slice none 0 0, .string ⟨#[]⟩, .slice none 0 0] 40)).alloc (.cells #[.slice none 0 0, .string ⟨#[]⟩, .slice none 0 0] 40)).alloc (.cells #[.slice none 0 0, .string ⟨#[]⟩, .slice none 0 0] 40)) := by
  have hs : S6 w4 w5 wr (w11.setCell ⟨wr.heap.size + 1, k + 1, none⟩ (.string ⟨#[120]⟩)) k u ss0 (L.set (k + 1) ⟨#[120]⟩) vb := h.rowed l45 l5 (h.row.set (k + 1) _) ((Below.refl (wr.heap.size + 1) w11).setCell (p := ⟨wr.heap.size + 1, k + 1, none⟩) (Nat.le_refl _) _)
  have hz : (w11.setCell ⟨wr.heap.size + 1, k + 1, none⟩ (.string ⟨#[120]⟩)).heap.size = w11.heap.size := by simp [World.setCell]
  generalize w11.setCell ⟨wr.heap.size + 1, k + 1, none⟩ (.string ⟨#[120]⟩) = W at *
  obtain ⟨p0, p1, p2, hb⟩ := three W _ rfl
  rw [← hz]
  exact ⟨p0, p1, p2, W, hs, rfl, hb⟩

theorem verb_nil {vb : ByteArray} (h : (vb.toList == ([] : List UInt8)) = true) : vb = ⟨#[]⟩ := by
  have h1 := beq_iff_eq.1 h
  rw [ByteArray.toList_eq] at h1
  cases vb with
  | mk d => exact congrArg ByteArray.mk (Array.toList_inj.1 h1)

set_option maxRecDepth 100000 in
set_option maxHeartbeats 8000000 in
theorem walk (a0 : Option Addr) (c0 : Nat) (ss0 : List ByteArray) (vb : ByteArray) (u : Bool) (w : World) (h0 : SR w a0 ss0) (l0 : ss0.length ≤ maxLen) (l1 : vb.size ≤ maxLen) :
    Calls Try.prog 6 #[.slice a0 ss0.length c0, .string vb, .bool u] w fun e w' => e = .returned (.bool true) ∧ Below w.heap.size w w' := by
  have H0 : Aside (SR w a0 ss0) := h0
  have L0 : Aside (ss0.length ≤ maxLen) := l0
  have L1 : Aside (vb.size ≤ maxLen) := l1
  clear h0
  unfold maxLen at l0 l1
  go_enter Try.func6, Try.ntmps6
  go_wp2_with fail
  refine (bytes19 a0 c0 ss0 vb u _ H0.out L0.out L1.out).mono ?_
  rintro e w1 ⟨⟨b, rfl, hbf⟩, rfl⟩
  have HBF : Aside (b = true → fit ss0 ∧ vb.size ≤ 1048576) := hbf
  clear hbf
  cases b
  · go_wp2_with fail
    go_ret
    exact ⟨rfl, Below.refl _ _⟩
  obtain ⟨f0, f1⟩ := HBF.out rfl
  have F0 : Aside (fit ss0) := f0
  clear f0 HBF
  by_cases q0 : decide ((65536 : Int) < (ss0.length : Int)) = true
  · go_wp2_with fail
    go_ret
    exact ⟨rfl, Below.refl _ _⟩
  have q0 : decide ((65536 : Int) < (ss0.length : Int)) = false := by simpa using q0
  by_cases q1 : decide ((65536 : Int) < (vb.size : Int)) = true
  · go_wp2_with fail
    go_ret
    exact ⟨rfl, Below.refl _ _⟩
  have q1 : decide ((65536 : Int) < (vb.size : Int)) = false := by simpa using q1
  have m0 : ss0.length ≤ 65536 := by have := of_decide_eq_false q0; omega
  go_wp2_with fail
  refine (sumlen_any a0 c0 ss0 _ H0.out m0 F0.out).mono ?_
  rintro e w2 ⟨⟨n0, rfl, hn0, hq0⟩, rfl⟩
  clear hq0
  by_cases hs : 262144 < n0 + vb.size
  · go_wp2_with fail
    go_ret
    exact ⟨rfl, Below.refl _ _⟩
  by_cases hl0 : ((ss0.length : Int) == 0) = true
  · go_wp2_with fail
    go_ret
    exact ⟨rfl, Below.refl _ _⟩
  have hl0 : ((ss0.length : Int) == 0) = false := by simpa using hl0
  go_wp2_with fail
  refine (allwf_any a0 c0 ss0 _ H0.out m0 F0.out).mono ?_
  rintro e w3 ⟨rfl, rfl⟩
  cases hw0 : allwf ss0
  · go_wp2_with fail
    go_ret
    exact ⟨rfl, Below.refl _ _⟩
  go_wp2_with fail
  refine (wf_any vb (by omega) _).mono ?_
  rintro e w3 ⟨rfl, rfl⟩
  cases hw1 : Pl.wf vb.data.toList
  · go_wp2_with fail
    go_ret
    exact ⟨rfl, Below.refl _ _⟩
  have W0 : Aside (allwf ss0 = true) := hw0
  have W1 : Aside (Pl.wf vb.data.toList = true) := hw1
  have n1 : 1 ≤ ss0.length := by have := beq_eq_false_iff_ne.1 hl0; omega
  clear hw0 hw1
  go_wp2_with fail
  refine (clone_any a0 c0 ss0 _ H0.out m0).mono ?_
  rintro e w4 ⟨hB4, a2, c2, rfl, hs2, hc2⟩
  have S2 : Aside (SR w4 a2 ss0) := hs2
  have HB4 : Aside (Below w3.heap.size w3 w4) := hB4
  clear hs2 H0 hB4 q0 q1 l0 l1 L0 L1
  go_wp2_with (first
    | (at_make; refine wpList_make_segs _ rfl (.tmp 61) (.tmp 61) rfl ss0.length _ _ rfl rfl rfl rfl (by omega) ?_; intro w5 hrg5 hb5 hz5; have R5 : Aside (RG w5 w4.heap.size ss0.length (fun _ => 0) (fun _ => ⟨#[]⟩) ∧ Below w4.heap.size w4 w5 ∧ w5.heap.size = w4.heap.size + 1) := ⟨hrg5, hb5, hz5⟩; clear hrg5 hb5 hz5)
    | (at_make; refine wpList_make_strs _ rfl (.tmp 64) (.tmp 64) rfl ss0.length _ _ rfl rfl rfl rfl (by omega) ?_; intro w6 hrow6 hb6 hz6; have R6 : Aside (RowS w6 w5.heap.size (List.replicate ss0.length ⟨#[]⟩) ∧ Below w5.heap.size w5 w6 ∧ w6.heap.size = w5.heap.size + 1) := ⟨hrow6, hb6, hz6⟩; clear hrow6 hb6 hz6))
  go_loopg [9, 10] ss0.length (fun g iv uv wx => ∃ j : Nat, ss0.length - j ≤ g ∧ j ≤ ss0.length ∧ iv = .int .i64 j ∧ RG wx w4.heap.size ss0.length (fun _ => 0) (upTo ss0 j) ∧ RowS wx w5.heap.size ((res u ss0).take j ++ List.replicate (ss0.length - j) ⟨#[]⟩) ∧ Below w4.heap.size w4 wx)
  case atStart => exact ⟨0, by omega, by omega, rfl, rg_congr (R5.out.1.later R6.out.2.1 (by have := R5.out.2.2; omega)) (fun _ _ => rfl) (fun _ _ => rfl), by simpa using R6.out.1, R5.out.2.1.trans (R6.out.2.1.mono (by have := R5.out.2.2; omega))⟩
  case round =>
    have l45 : w4.heap.size < w5.heap.size := by have := R5.out.2.2; omega
    clear R5 R6
    obtain ⟨j, hg, hj, rfl, hrg, hrow, hB6⟩ := hrel
    have R7 : Aside (RG wr w4.heap.size ss0.length (fun _ => 0) (upTo ss0 j)) := hrg
    have R8 : Aside (RowS wr w5.heap.size ((res u ss0).take j ++ List.replicate (ss0.length - j) ⟨#[]⟩)) := hrow
    have HB6 : Aside (Below w4.heap.size w4 wr) := hB6
    by_cases hlt : j < ss0.length
    · obtain ⟨b, o, hao, hc⟩ := (S2.out.later' hB6) j hlt
      have hbl := S2.out.lt b o (by omega) hao
      subst hao
      have r0 := hrg.c0 j (by omega)
      have r1 := hrg.c1 j (by omega)
      have r2 := hrg.fz (j * 2)
      have r3 := hrg.fz (j * 2 + 1)
      generalize upTo ss0 j j = old at *
      obtain ⟨s, hs⟩ : ∃ s, ss0[j]'hlt = s := ⟨_, rfl⟩
      rw [hs] at hc
      have HSX : Aside (ss0[j]'hlt = s) := hs
      have hji : (j : Int) < (ss0.length : Int) := by omega
      clear hs hrg hrow hB6
      have WS : Aside (Pl.wf s.data.toList = true) := by rw [← HSX.out]; exact allwf_get W0.out hlt
      have zs : s.size ≤ 1048576 := by rw [← HSX.out]; exact F0.out _ (List.getElem_mem hlt)
      cases hp : ((j : Int) % 2 == 1)
      · have UP : Aside (up u j = u) := by show _ = _; unfold up; rw [if_neg (by have := beq_eq_false_iff_ne.1 hp; omega)]
        go_wp2_with fail
        refine (dec_any s false (by omega) WS.out _).mono ?_
        rintro e w7 ⟨rfl, hb7⟩
        go_wp2_with fail
        refine (enc_any (us false s) u (by have := us_len false s WS.out; omega) _).mono ?_
        rintro e w8 ⟨rfl, hb8⟩
        have hst := step6 l45 R7.out R8.out HB6.out hlt HSX.out hb7 hb8
        have ST8 : Aside (RG w8 w4.heap.size ss0.length (fun _ => 0) (upTo ss0 (j + 1)) ∧ RowS w8 w5.heap.size ((res u ss0).take j ++ List.replicate (ss0.length - j) ⟨#[]⟩) ∧ Below w4.heap.size w4 w8) := hst
        obtain ⟨x8, c8⟩ : ∃ x, w8.cell? ⟨w5.heap.size, j, none⟩ = some x := ⟨_, hst.2.1.cell (by simp [res_length]; omega)⟩
        have f8 := hst.2.1.frozen j
        clear hst hb7 hb8 r0 r1 r2 r3 hc
        go_wp2_with fail
        go_roundg (ss0.length - (j + 1))
        case measure => omega
        case rel =>
          refine ⟨j + 1, by omega, by omega, by go_num, ST8.out.1.later ((Below.refl w5.heap.size w8).setCell (Nat.le_refl _) _) l45, ?_, ST8.out.2.2.setCell (by simp; omega) _⟩
          have hset := ST8.out.2.1.set j (en u (us false s))
          have hr : j < (res u ss0).length := by rw [res_length]; exact hlt
          have hre : en u (us false s) = (res u ss0)[j] := by rw [res_at u ss0 j hr hlt, HSX.out, UP.out]
          rw [hre] at hset ⊢
          have hfs := fill_set (res u ss0) j hr ⟨#[]⟩
          rw [res_length] at hfs
          rw [hfs] at hset
          exact hset
      · have UP : Aside (up u j = (!u)) := by show _ = _; unfold up; rw [if_pos (by have := beq_iff_eq.1 hp; omega)]
        go_wp2_with fail
        refine (dec_any s false (by omega) WS.out _).mono ?_
        rintro e w7 ⟨rfl, hb7⟩
        go_wp2_with fail
        refine (enc_any (us false s) (!u) (by have := us_len false s WS.out; omega) _).mono ?_
        rintro e w8 ⟨rfl, hb8⟩
        have hst := step6 l45 R7.out R8.out HB6.out hlt HSX.out hb7 hb8
        have ST8 : Aside (RG w8 w4.heap.size ss0.length (fun _ => 0) (upTo ss0 (j + 1)) ∧ RowS w8 w5.heap.size ((res u ss0).take j ++ List.replicate (ss0.length - j) ⟨#[]⟩) ∧ Below w4.heap.size w4 w8) := hst
        obtain ⟨x8, c8⟩ : ∃ x, w8.cell? ⟨w5.heap.size, j, none⟩ = some x := ⟨_, hst.2.1.cell (by simp [res_length]; omega)⟩
        have f8 := hst.2.1.frozen j
        clear hst hb7 hb8 r0 r1 r2 r3 hc
        go_wp2_with fail
        go_roundg (ss0.length - (j + 1))
        case measure => omega
        case rel =>
          refine ⟨j + 1, by omega, by omega, by go_num, ST8.out.1.later ((Below.refl w5.heap.size w8).setCell (Nat.le_refl _) _) l45, ?_, ST8.out.2.2.setCell (by simp; omega) _⟩
          have hset := ST8.out.2.1.set j (en (!u) (us false s))
          have hr : j < (res u ss0).length := by rw [res_length]; exact hlt
          have hre : en (!u) (us false s) = (res u ss0)[j] := by rw [res_at u ss0 j hr hlt, HSX.out, UP.out]
          rw [hre] at hset ⊢
          have hfs := fill_set (res u ss0) j hr ⟨#[]⟩
          rw [res_length] at hfs
          rw [hfs] at hset
          exact hset
    · obtain rfl : j = ss0.length := by omega
      have hrow' := R8.out
      rw [Nat.sub_self, List.replicate_zero, List.append_nil, List.take_of_length_le (by rw [res_length]; omega)] at hrow'
      have R9 : Aside (RowS wr w5.heap.size (res u ss0)) := hrow'
      obtain ⟨k, hk⟩ : ∃ k, ss0.length = k + 1 := ⟨ss0.length - 1, by omega⟩
      have HK : Aside (ss0.length = k + 1) := hk
      have HR : Aside ((res u ss0).length = k + 1) := (res_length u ss0).trans hk
      have l5 : w5.heap.size < wr.heap.size := hrow'.lt
      have SAME : Aside (∀ j (h1 : j < (res u ss0).length) (h2 : j < ss0.length), Same (res u ss0)[j] ss0[j]) := res_same u ss0 F0.out W0.out
      have hk6 : k ≤ 65536 := by omega
      clear hrow' hrow hrg R8 hB6 hg hj hlt hl0 n1 m0 hc2 hs hn0
      rw [hk]
      clear hk
      have x1 : (k : Int) + 1 < (k : Int) + 1 + 1 := by omega
      cases hv : (vb.toList == ([] : List UInt8))
      · go_wp2_with (first
          | (at_make; refine wpList_make_strs _ rfl (.tmp 102) (.tmp 102) rfl (k + 1 + 1) _ _ rfl rfl (by omega) (by omega) (by omega) ?_; intro w10 hrow10 hb10 hz10; have ST10 : Aside (S6 w4 w5 wr w10 k u ss0 (List.replicate (k + 1 + 1) ⟨#[]⟩) vb) := stage6 l45 l5 R7.out R9.out HB6.out HK.out hrow10 hb10; clear hrow10 hb10 hz10)
          | (refine wpList_copy_strs _ rfl (.tmp 104) (.tmp 105) rfl _ _ _ rfl _ _ _ rfl rfl _ _ ST10.out.row 0 (res u ss0) ST10.out.re.sr HR.out.symm (by rw [HR.out]; omega) (fun _ => rfl) (by rw [HR.out, List.length_replicate]; omega) ?_; intro w11 hrow11 hb11 hz11; have ST11 : Aside (S6 w4 w5 wr w11 k u ss0 (res u ss0 ++ List.replicate 1 ⟨#[]⟩) vb) := ST10.out.rowed l45 l5 (by rw [← fnMatchDoubleWildcardBindsTheRest.lay1, HR.out]; rw [HR.out] at hrow11; exact hrow11) hb11; have c11 := ST11.out.row.cell (j := k + 1) (by simp [HR.out]); rw [List.getElem_append_right (by rw [HR.out]; omega)] at c11; simp only [List.getElem_replicate] at c11; have f11 := ST11.out.row.frozen (k + 1); clear hrow11 hb11 hz11 ST10))
        obtain ⟨P0, P1, P2, w12, S12, Z12, BB⟩ := open6 ST11.out l45 l5
        have P0_0 : Aside (P3 ((((w11.setCell ⟨wr.heap.size + 1, k + 1, none⟩ (.string ⟨#[120]⟩)).alloc (.cells #[.slice none 0 0, .string ⟨#[]⟩, .slice none 0 0] 40)).alloc (.cells #[.slice none 0 0, .string ⟨#[]⟩, .slice none 0 0] 40)).alloc (.cells #[.slice none 0 0, .string ⟨#[]⟩, .slice none 0 0] 40)) (w11.heap.size) (.slice none 0 0) (.string ⟨#[]⟩) (.slice none 0 0)) := P0
        have P1_0 : Aside (P3 ((((w11.setCell ⟨wr.heap.size + 1, k + 1, none⟩ (.string ⟨#[120]⟩)).alloc (.cells #[.slice none 0 0, .string ⟨#[]⟩, .slice none 0 0] 40)).alloc (.cells #[.slice none 0 0, .string ⟨#[]⟩, .slice none 0 0] 40)).alloc (.cells #[.slice none 0 0, .string ⟨#[]⟩, .slice none 0 0] 40)) (w11.heap.size + 1) (.slice none 0 0) (.string ⟨#[]⟩) (.slice none 0 0)) := P1
        have P2_0 : Aside (P3 ((((w11.setCell ⟨wr.heap.size + 1, k + 1, none⟩ (.string ⟨#[120]⟩)).alloc (.cells #[.slice none 0 0, .string ⟨#[]⟩, .slice none 0 0] 40)).alloc (.cells #[.slice none 0 0, .string ⟨#[]⟩, .slice none 0 0] 40)).alloc (.cells #[.slice none 0 0, .string ⟨#[]⟩, .slice none 0 0] 40)) (w11.heap.size + 1 + 1) (.slice none 0 0) (.string ⟨#[]⟩) (.slice none 0 0)) := P2
        have SS : Aside (S6 w4 w5 wr w12 k u ss0 ((res u ss0 ++ List.replicate 1 (⟨#[]⟩ : ByteArray)).set (k + 1) (⟨#[120]⟩ : ByteArray)) vb) := S12
        have HZ : Aside (w12.heap.size = w11.heap.size) := Z12
        have BB_0 : Aside (Below w12.heap.size w12 ((((w11.setCell ⟨wr.heap.size + 1, k + 1, none⟩ (.string ⟨#[120]⟩)).alloc (.cells #[.slice none 0 0, .string ⟨#[]⟩, .slice none 0 0] 40)).alloc (.cells #[.slice none 0 0, .string ⟨#[]⟩, .slice none 0 0] 40)).alloc (.cells #[.slice none 0 0, .string ⟨#[]⟩, .slice none 0 0] 40))) := BB
        clear P0 P1 P2 S12 Z12 BB ST11 c11 f11
        generalize ((((w11.setCell ⟨wr.heap.size + 1, k + 1, none⟩ (.string ⟨#[120]⟩)).alloc (.cells #[.slice none 0 0, .string ⟨#[]⟩, .slice none 0 0] 40)).alloc (.cells #[.slice none 0 0, .string ⟨#[]⟩, .slice none 0 0] 40)).alloc (.cells #[.slice none 0 0, .string ⟨#[]⟩, .slice none 0 0] 40)) = v0 at *
        refine (dec_any vb false (by omega) W1.out _).mono ?_
        rintro e v1 ⟨rfl, hb⟩
        have P0_1 : Aside (P3 v1 (w11.heap.size) (.slice none 0 0) (.string ⟨#[]⟩) (.slice none 0 0)) := P0_0.out.later hb
        have P1_1 : Aside (P3 v1 (w11.heap.size + 1) (.slice none 0 0) (.string ⟨#[]⟩) (.slice none 0 0)) := P1_0.out.later hb
        have P2_1 : Aside (P3 v1 (w11.heap.size + 1 + 1) (.slice none 0 0) (.string ⟨#[]⟩) (.slice none 0 0)) := P2_0.out.later hb
        have BB_1 : Aside (Below w12.heap.size w12 v1) := BB_0.out.trans (hb.mono BB_0.out.size)
        clear P0_0 P1_0 P2_0 BB_0 hb
        go_wp2_with fail
        refine (enc_any (us false vb) (!u) (by have := us_len false vb W1.out; omega) _).mono ?_
        rintro e v2 ⟨rfl, hb⟩
        have P0_2 : Aside (P3 v2 (w11.heap.size) (.slice none 0 0) (.string ⟨#[]⟩) (.slice none 0 0)) := P0_1.out.later hb
        have P1_2 : Aside (P3 v2 (w11.heap.size + 1) (.slice none 0 0) (.string ⟨#[]⟩) (.slice none 0 0)) := P1_1.out.later hb
        have P2_2 : Aside (P3 v2 (w11.heap.size + 1 + 1) (.slice none 0 0) (.string ⟨#[]⟩) (.slice none 0 0)) := P2_1.out.later hb
        have BB_2 : Aside (Below w12.heap.size w12 v2) := BB_1.out.trans (hb.mono BB_1.out.size)
        clear P0_1 P1_1 P2_1 BB_1 hb
        have SV : Aside (Same (en (!u) (us false vb)) vb) := same_en (!u) vb f1 W1.out
        generalize en (!u) (us false vb) = ev at *
        go_wp2_with fail
        refine (zzpath_any (.slice none 0 0) (.slice (some ⟨w5.heap.size, 0, none⟩) (k + 1) (k + 1)) ev _ _ _ _ _ _ rfl rfl _).mono ?_
        rintro e v3 ⟨rfl, hb⟩
        have P0_3 : Aside (P3 v3 (w11.heap.size) (.slice none 0 0) (.string ⟨#[]⟩) (.slice none 0 0)) := P0_2.out.later hb
        have P1_3 : Aside (P3 v3 (w11.heap.size + 1) (.slice none 0 0) (.string ⟨#[]⟩) (.slice none 0 0)) := P1_2.out.later hb
        have P2_3 : Aside (P3 v3 (w11.heap.size + 1 + 1) (.slice none 0 0) (.string ⟨#[]⟩) (.slice none 0 0)) := P2_2.out.later hb
        have BB_3 : Aside (Below w12.heap.size w12 v3) := BB_2.out.trans (hb.mono BB_2.out.size)
        clear P0_2 P1_2 P2_2 BB_2 hb
        obtain ⟨d00, d01, d02⟩ := P0_3.out.cells
        have lt0 := P0_3.out.lt
        have z00 := P0_3.out.fz 0
        have z01 := P0_3.out.fz 1
        have z02 := P0_3.out.fz 2
        go_wp2_with fail
        clear d00 d01 d02 lt0 z00 z01 z02
        have P0_4 : Aside (P3 (((v3.setCell ⟨w11.heap.size, 0, none⟩ (.slice none 0 0)).setCell ⟨w11.heap.size, 1, none⟩ (.string ev)).setCell ⟨w11.heap.size, 2, none⟩ (.slice (some ⟨w5.heap.size, 0, none⟩) (k + 1) (k + 1))) (w11.heap.size) (.slice none 0 0) (.string ev) (.slice (some ⟨w5.heap.size, 0, none⟩) (k + 1) (k + 1))) := P0_3.out.set _ _ _
        have P1_4 : Aside (P3 (((v3.setCell ⟨w11.heap.size, 0, none⟩ (.slice none 0 0)).setCell ⟨w11.heap.size, 1, none⟩ (.string ev)).setCell ⟨w11.heap.size, 2, none⟩ (.slice (some ⟨w5.heap.size, 0, none⟩) (k + 1) (k + 1))) (w11.heap.size + 1) (.slice none 0 0) (.string ⟨#[]⟩) (.slice none 0 0)) := P1_3.out.other (by omega) _ _ _
        have P2_4 : Aside (P3 (((v3.setCell ⟨w11.heap.size, 0, none⟩ (.slice none 0 0)).setCell ⟨w11.heap.size, 1, none⟩ (.string ev)).setCell ⟨w11.heap.size, 2, none⟩ (.slice (some ⟨w5.heap.size, 0, none⟩) (k + 1) (k + 1))) (w11.heap.size + 1 + 1) (.slice none 0 0) (.string ⟨#[]⟩) (.slice none 0 0)) := P2_3.out.other (by omega) _ _ _
        have BB_4 : Aside (Below w12.heap.size w12 (((v3.setCell ⟨w11.heap.size, 0, none⟩ (.slice none 0 0)).setCell ⟨w11.heap.size, 1, none⟩ (.string ev)).setCell ⟨w11.heap.size, 2, none⟩ (.slice (some ⟨w5.heap.size, 0, none⟩) (k + 1) (k + 1)))) := below_set3 BB_3.out (by have := HZ.out; omega) _ _ _
        clear P0_3 P1_3 P2_3 BB_3
        generalize (((v3.setCell ⟨w11.heap.size, 0, none⟩ (.slice none 0 0)).setCell ⟨w11.heap.size, 1, none⟩ (.string ev)).setCell ⟨w11.heap.size, 2, none⟩ (.slice (some ⟨w5.heap.size, 0, none⟩) (k + 1) (k + 1))) = v4 at *
        refine (zzpath_any (.slice none 0 0) (.slice (some ⟨wr.heap.size + 1, 0, none⟩) (k + 1 + 1) (k + 1 + 1)) ev _ _ _ _ _ _ rfl rfl _).mono ?_
        rintro e v5 ⟨rfl, hb⟩
        have P0_5 : Aside (P3 v5 (w11.heap.size) (.slice none 0 0) (.string ev) (.slice (some ⟨w5.heap.size, 0, none⟩) (k + 1) (k + 1))) := P0_4.out.later hb
        have P1_5 : Aside (P3 v5 (w11.heap.size + 1) (.slice none 0 0) (.string ⟨#[]⟩) (.slice none 0 0)) := P1_4.out.later hb
        have P2_5 : Aside (P3 v5 (w11.heap.size + 1 + 1) (.slice none 0 0) (.string ⟨#[]⟩) (.slice none 0 0)) := P2_4.out.later hb
        have BB_5 : Aside (Below w12.heap.size w12 v5) := BB_4.out.trans (hb.mono BB_4.out.size)
        clear P0_4 P1_4 P2_4 BB_4 hb
        obtain ⟨d10, d11, d12⟩ := P1_5.out.cells
        have lt1 := P1_5.out.lt
        have z10 := P1_5.out.fz 0
        have z11 := P1_5.out.fz 1
        have z12 := P1_5.out.fz 2
        go_wp2_with fail
        clear d10 d11 d12 lt1 z10 z11 z12
        have P0_6 : Aside (P3 (((v5.setCell ⟨w11.heap.size + 1, 0, none⟩ (.slice none 0 0)).setCell ⟨w11.heap.size + 1, 1, none⟩ (.string ev)).setCell ⟨w11.heap.size + 1, 2, none⟩ (.slice (some ⟨wr.heap.size + 1, 0, none⟩) (k + 1 + 1) (k + 1 + 1))) (w11.heap.size) (.slice none 0 0) (.string ev) (.slice (some ⟨w5.heap.size, 0, none⟩) (k + 1) (k + 1))) := P0_5.out.other (by omega) _ _ _
        have P1_6 : Aside (P3 (((v5.setCell ⟨w11.heap.size + 1, 0, none⟩ (.slice none 0 0)).setCell ⟨w11.heap.size + 1, 1, none⟩ (.string ev)).setCell ⟨w11.heap.size + 1, 2, none⟩ (.slice (some ⟨wr.heap.size + 1, 0, none⟩) (k + 1 + 1) (k + 1 + 1))) (w11.heap.size + 1) (.slice none 0 0) (.string ev) (.slice (some ⟨wr.heap.size + 1, 0, none⟩) (k + 1 + 1) (k + 1 + 1))) := P1_5.out.set _ _ _
        have P2_6 : Aside (P3 (((v5.setCell ⟨w11.heap.size + 1, 0, none⟩ (.slice none 0 0)).setCell ⟨w11.heap.size + 1, 1, none⟩ (.string ev)).setCell ⟨w11.heap.size + 1, 2, none⟩ (.slice (some ⟨wr.heap.size + 1, 0, none⟩) (k + 1 + 1) (k + 1 + 1))) (w11.heap.size + 1 + 1) (.slice none 0 0) (.string ⟨#[]⟩) (.slice none 0 0)) := P2_5.out.other (by omega) _ _ _
        have BB_6 : Aside (Below w12.heap.size w12 (((v5.setCell ⟨w11.heap.size + 1, 0, none⟩ (.slice none 0 0)).setCell ⟨w11.heap.size + 1, 1, none⟩ (.string ev)).setCell ⟨w11.heap.size + 1, 2, none⟩ (.slice (some ⟨wr.heap.size + 1, 0, none⟩) (k + 1 + 1) (k + 1 + 1)))) := below_set3 BB_5.out (by have := HZ.out; omega) _ _ _
        clear P0_5 P1_5 P2_5 BB_5
        generalize (((v5.setCell ⟨w11.heap.size + 1, 0, none⟩ (.slice none 0 0)).setCell ⟨w11.heap.size + 1, 1, none⟩ (.string ev)).setCell ⟨w11.heap.size + 1, 2, none⟩ (.slice (some ⟨wr.heap.size + 1, 0, none⟩) (k + 1 + 1) (k + 1 + 1))) = v6 at *
        refine (zzpath_any (.slice none 0 0) (.slice (some ⟨w5.heap.size, 0, none⟩) k (k + 1)) ev _ _ _ _ _ _ rfl rfl _).mono ?_
        rintro e v7 ⟨rfl, hb⟩
        have P0_7 : Aside (P3 v7 (w11.heap.size) (.slice none 0 0) (.string ev) (.slice (some ⟨w5.heap.size, 0, none⟩) (k + 1) (k + 1))) := P0_6.out.later hb
        have P1_7 : Aside (P3 v7 (w11.heap.size + 1) (.slice none 0 0) (.string ev) (.slice (some ⟨wr.heap.size + 1, 0, none⟩) (k + 1 + 1) (k + 1 + 1))) := P1_6.out.later hb
        have P2_7 : Aside (P3 v7 (w11.heap.size + 1 + 1) (.slice none 0 0) (.string ⟨#[]⟩) (.slice none 0 0)) := P2_6.out.later hb
        have BB_7 : Aside (Below w12.heap.size w12 v7) := BB_6.out.trans (hb.mono BB_6.out.size)
        clear P0_6 P1_6 P2_6 BB_6 hb
        obtain ⟨d20, d21, d22⟩ := P2_7.out.cells
        have lt2 := P2_7.out.lt
        have z20 := P2_7.out.fz 0
        have z21 := P2_7.out.fz 1
        have z22 := P2_7.out.fz 2
        go_wp2_with fail
        clear d20 d21 d22 lt2 z20 z21 z22
        have P0_8 : Aside (P3 (((v7.setCell ⟨w11.heap.size + 1 + 1, 0, none⟩ (.slice none 0 0)).setCell ⟨w11.heap.size + 1 + 1, 1, none⟩ (.string ev)).setCell ⟨w11.heap.size + 1 + 1, 2, none⟩ (.slice (some ⟨w5.heap.size, 0, none⟩) k (k + 1))) (w11.heap.size) (.slice none 0 0) (.string ev) (.slice (some ⟨w5.heap.size, 0, none⟩) (k + 1) (k + 1))) := P0_7.out.other (by omega) _ _ _
        have P1_8 : Aside (P3 (((v7.setCell ⟨w11.heap.size + 1 + 1, 0, none⟩ (.slice none 0 0)).setCell ⟨w11.heap.size + 1 + 1, 1, none⟩ (.string ev)).setCell ⟨w11.heap.size + 1 + 1, 2, none⟩ (.slice (some ⟨w5.heap.size, 0, none⟩) k (k + 1))) (w11.heap.size + 1) (.slice none 0 0) (.string ev) (.slice (some ⟨wr.heap.size + 1, 0, none⟩) (k + 1 + 1) (k + 1 + 1))) := P1_7.out.other (by omega) _ _ _
        have P2_8 : Aside (P3 (((v7.setCell ⟨w11.heap.size + 1 + 1, 0, none⟩ (.slice none 0 0)).setCell ⟨w11.heap.size + 1 + 1, 1, none⟩ (.string ev)).setCell ⟨w11.heap.size + 1 + 1, 2, none⟩ (.slice (some ⟨w5.heap.size, 0, none⟩) k (k + 1))) (w11.heap.size + 1 + 1) (.slice none 0 0) (.string ev) (.slice (some ⟨w5.heap.size, 0, none⟩) k (k + 1))) := P2_7.out.set _ _ _
        have BB_8 : Aside (Below w12.heap.size w12 (((v7.setCell ⟨w11.heap.size + 1 + 1, 0, none⟩ (.slice none 0 0)).setCell ⟨w11.heap.size + 1 + 1, 1, none⟩ (.string ev)).setCell ⟨w11.heap.size + 1 + 1, 2, none⟩ (.slice (some ⟨w5.heap.size, 0, none⟩) k (k + 1)))) := below_set3 BB_7.out (by have := HZ.out; omega) _ _ _
        clear P0_7 P1_7 P2_7 BB_7
        generalize (((v7.setCell ⟨w11.heap.size + 1 + 1, 0, none⟩ (.slice none 0 0)).setCell ⟨w11.heap.size + 1 + 1, 1, none⟩ (.string ev)).setCell ⟨w11.heap.size + 1 + 1, 2, none⟩ (.slice (some ⟨w5.heap.size, 0, none⟩) k (k + 1))) = v8 at *
        refine (zzpath_any (.slice (some ⟨w5.heap.size, 0, none⟩) (k + 1) (k + 1)) (.slice none 0 0) ev _ _ _ _ _ _ rfl rfl _).mono ?_
        rintro e v9 ⟨rfl, hb⟩
        have P0_9 : Aside (P3 v9 (w11.heap.size) (.slice none 0 0) (.string ev) (.slice (some ⟨w5.heap.size, 0, none⟩) (k + 1) (k + 1))) := P0_8.out.later hb
        have P1_9 : Aside (P3 v9 (w11.heap.size + 1) (.slice none 0 0) (.string ev) (.slice (some ⟨wr.heap.size + 1, 0, none⟩) (k + 1 + 1) (k + 1 + 1))) := P1_8.out.later hb
        have P2_9 : Aside (P3 v9 (w11.heap.size + 1 + 1) (.slice none 0 0) (.string ev) (.slice (some ⟨w5.heap.size, 0, none⟩) k (k + 1))) := P2_8.out.later hb
        have BB_9 : Aside (Below w12.heap.size w12 v9) := BB_8.out.trans (hb.mono BB_8.out.size)
        clear P0_8 P1_8 P2_8 BB_8 hb
        go_wp2_with fail
        refine (lit_nostems wr.heap.size w4.heap.size k ss0 vb ev (some ⟨w5.heap.size, 0, none⟩) (k + 1) (k + 1) _ (SS.out.fin BB_9.out).1 hv).mono ?_
        rintro e v10 ⟨rfl, hb⟩
        have P0_10 : Aside (P3 v10 (w11.heap.size) (.slice none 0 0) (.string ev) (.slice (some ⟨w5.heap.size, 0, none⟩) (k + 1) (k + 1))) := P0_9.out.later hb
        have P1_10 : Aside (P3 v10 (w11.heap.size + 1) (.slice none 0 0) (.string ev) (.slice (some ⟨wr.heap.size + 1, 0, none⟩) (k + 1 + 1) (k + 1 + 1))) := P1_9.out.later hb
        have P2_10 : Aside (P3 v10 (w11.heap.size + 1 + 1) (.slice none 0 0) (.string ev) (.slice (some ⟨w5.heap.size, 0, none⟩) k (k + 1))) := P2_9.out.later hb
        have BB_10 : Aside (Below w12.heap.size w12 v10) := BB_9.out.trans (hb.mono BB_9.out.size)
        clear P0_9 P1_9 P2_9 BB_9 hb
        obtain ⟨d00, d01, d02⟩ := P0_10.out.cells
        have lt0 := P0_10.out.lt
        go_wp2_with fail
        clear d00 d01 d02 lt0
        refine (lit_ok1 wr.heap.size w4.heap.size k w5.heap.size ss0 (res u ss0) vb ev (k + 1) _ (SS.out.fin BB_10.out).1 hv SV.out HK.out HR.out (SS.out.fin BB_10.out).2.1 hk6 SAME.out).mono ?_
        rintro e v11 ⟨hb, av, cv, rfl⟩
        have P0_11 : Aside (P3 v11 (w11.heap.size) (.slice none 0 0) (.string ev) (.slice (some ⟨w5.heap.size, 0, none⟩) (k + 1) (k + 1))) := P0_10.out.later hb
        have P1_11 : Aside (P3 v11 (w11.heap.size + 1) (.slice none 0 0) (.string ev) (.slice (some ⟨wr.heap.size + 1, 0, none⟩) (k + 1 + 1) (k + 1 + 1))) := P1_10.out.later hb
        have P2_11 : Aside (P3 v11 (w11.heap.size + 1 + 1) (.slice none 0 0) (.string ev) (.slice (some ⟨w5.heap.size, 0, none⟩) k (k + 1))) := P2_10.out.later hb
        have BB_11 : Aside (Below w12.heap.size w12 v11) := BB_10.out.trans (hb.mono BB_10.out.size)
        clear P0_10 P1_10 P2_10 BB_10 hb
        obtain ⟨d10, d11, d12⟩ := P1_11.out.cells
        have lt1 := P1_11.out.lt
        go_wp2_with fail
        clear d10 d11 d12 lt1
        refine (lit_len1 wr.heap.size w4.heap.size k (wr.heap.size + 1) ss0 vb ev (k + 1 + 1) (k + 1 + 1) _ (SS.out.fin BB_11.out).1 hv SV.out hk6 (by omega)).mono ?_
        rintro e v12 ⟨rfl, hb⟩
        have P0_12 : Aside (P3 v12 (w11.heap.size) (.slice none 0 0) (.string ev) (.slice (some ⟨w5.heap.size, 0, none⟩) (k + 1) (k + 1))) := P0_11.out.later hb
        have P1_12 : Aside (P3 v12 (w11.heap.size + 1) (.slice none 0 0) (.string ev) (.slice (some ⟨wr.heap.size + 1, 0, none⟩) (k + 1 + 1) (k + 1 + 1))) := P1_11.out.later hb
        have P2_12 : Aside (P3 v12 (w11.heap.size + 1 + 1) (.slice none 0 0) (.string ev) (.slice (some ⟨w5.heap.size, 0, none⟩) k (k + 1))) := P2_11.out.later hb
        have BB_12 : Aside (Below w12.heap.size w12 v12) := BB_11.out.trans (hb.mono BB_11.out.size)
        clear P0_11 P1_11 P2_11 BB_11 hb
        obtain ⟨d20, d21, d22⟩ := P2_12.out.cells
        have lt2 := P2_12.out.lt
        go_wp2_with fail
        clear d20 d21 d22 lt2
        refine (lit_len1 wr.heap.size w4.heap.size k w5.heap.size ss0 vb ev k (k + 1) _ (SS.out.fin BB_12.out).1 hv SV.out hk6 (by omega)).mono ?_
        rintro e v13 ⟨rfl, hb⟩
        have P0_13 : Aside (P3 v13 (w11.heap.size) (.slice none 0 0) (.string ev) (.slice (some ⟨w5.heap.size, 0, none⟩) (k + 1) (k + 1))) := P0_12.out.later hb
        have P1_13 : Aside (P3 v13 (w11.heap.size + 1) (.slice none 0 0) (.string ev) (.slice (some ⟨wr.heap.size + 1, 0, none⟩) (k + 1 + 1) (k + 1 + 1))) := P1_12.out.later hb
        have P2_13 : Aside (P3 v13 (w11.heap.size + 1 + 1) (.slice none 0 0) (.string ev) (.slice (some ⟨w5.heap.size, 0, none⟩) k (k + 1))) := P2_12.out.later hb
        have BB_13 : Aside (Below w12.heap.size w12 v13) := BB_12.out.trans (hb.mono BB_12.out.size)
        clear P0_12 P1_12 P2_12 BB_12 hb
        go_wp2_with fail
        go_ret
        exact ⟨rfl, HB4.out.trans ((SS.out.fin BB_13.out).2.2.mono HB4.out.size)⟩
      · obtain rfl : vb = ⟨#[]⟩ := verb_nil hv
        clear hv
        go_wp2_with (first
          | (at_make; refine wpList_make_strs _ rfl (.tmp 102) (.tmp 102) rfl (k + 1 + 1) _ _ rfl rfl (by omega) (by omega) (by omega) ?_; intro w10 hrow10 hb10 hz10; have ST10 : Aside (S6 w4 w5 wr w10 k u ss0 (List.replicate (k + 1 + 1) ⟨#[]⟩) ⟨#[]⟩) := stage6 l45 l5 R7.out R9.out HB6.out HK.out hrow10 hb10; clear hrow10 hb10 hz10)
          | (refine wpList_copy_strs _ rfl (.tmp 104) (.tmp 105) rfl _ _ _ rfl _ _ _ rfl rfl _ _ ST10.out.row 0 (res u ss0) ST10.out.re.sr HR.out.symm (by rw [HR.out]; omega) (fun _ => rfl) (by rw [HR.out, List.length_replicate]; omega) ?_; intro w11 hrow11 hb11 hz11; have ST11 : Aside (S6 w4 w5 wr w11 k u ss0 (res u ss0 ++ List.replicate 1 ⟨#[]⟩) ⟨#[]⟩) := ST10.out.rowed l45 l5 (by rw [← fnMatchDoubleWildcardBindsTheRest.lay1, HR.out]; rw [HR.out] at hrow11; exact hrow11) hb11; have c11 := ST11.out.row.cell (j := k + 1) (by simp [HR.out]); rw [List.getElem_append_right (by rw [HR.out]; omega)] at c11; simp only [List.getElem_replicate] at c11; have f11 := ST11.out.row.frozen (k + 1); clear hrow11 hb11 hz11 ST10))
        obtain ⟨P0, P1, P2, w12, S12, Z12, BB⟩ := open6 ST11.out l45 l5
        have P0_0 : Aside (P3 ((((w11.setCell ⟨wr.heap.size + 1, k + 1, none⟩ (.string ⟨#[120]⟩)).alloc (.cells #[.slice none 0 0, .string ⟨#[]⟩, .slice none 0 0] 40)).alloc (.cells #[.slice none 0 0, .string ⟨#[]⟩, .slice none 0 0] 40)).alloc (.cells #[.slice none 0 0, .string ⟨#[]⟩, .slice none 0 0] 40)) (w11.heap.size) (.slice none 0 0) (.string ⟨#[]⟩) (.slice none 0 0)) := P0
        have P1_0 : Aside (P3 ((((w11.setCell ⟨wr.heap.size + 1, k + 1, none⟩ (.string ⟨#[120]⟩)).alloc (.cells #[.slice none 0 0, .string ⟨#[]⟩, .slice none 0 0] 40)).alloc (.cells #[.slice none 0 0, .string ⟨#[]⟩, .slice none 0 0] 40)).alloc (.cells #[.slice none 0 0, .string ⟨#[]⟩, .slice none 0 0] 40)) (w11.heap.size + 1) (.slice none 0 0) (.string ⟨#[]⟩) (.slice none 0 0)) := P1
        have P2_0 : Aside (P3 ((((w11.setCell ⟨wr.heap.size + 1, k + 1, none⟩ (.string ⟨#[120]⟩)).alloc (.cells #[.slice none 0 0, .string ⟨#[]⟩, .slice none 0 0] 40)).alloc (.cells #[.slice none 0 0, .string ⟨#[]⟩, .slice none 0 0] 40)).alloc (.cells #[.slice none 0 0, .string ⟨#[]⟩, .slice none 0 0] 40)) (w11.heap.size + 1 + 1) (.slice none 0 0) (.string ⟨#[]⟩) (.slice none 0 0)) := P2
        have SS : Aside (S6 w4 w5 wr w12 k u ss0 ((res u ss0 ++ List.replicate 1 (⟨#[]⟩ : ByteArray)).set (k + 1) (⟨#[120]⟩ : ByteArray)) ⟨#[]⟩) := S12
        have HZ : Aside (w12.heap.size = w11.heap.size) := Z12
        have BB_0 : Aside (Below w12.heap.size w12 ((((w11.setCell ⟨wr.heap.size + 1, k + 1, none⟩ (.string ⟨#[120]⟩)).alloc (.cells #[.slice none 0 0, .string ⟨#[]⟩, .slice none 0 0] 40)).alloc (.cells #[.slice none 0 0, .string ⟨#[]⟩, .slice none 0 0] 40)).alloc (.cells #[.slice none 0 0, .string ⟨#[]⟩, .slice none 0 0] 40))) := BB
        clear P0 P1 P2 S12 Z12 BB ST11 c11 f11
        generalize ((((w11.setCell ⟨wr.heap.size + 1, k + 1, none⟩ (.string ⟨#[120]⟩)).alloc (.cells #[.slice none 0 0, .string ⟨#[]⟩, .slice none 0 0] 40)).alloc (.cells #[.slice none 0 0, .string ⟨#[]⟩, .slice none 0 0] 40)).alloc (.cells #[.slice none 0 0, .string ⟨#[]⟩, .slice none 0 0] 40)) = v0 at *
        refine (zzpath_any (.slice (some ⟨w5.heap.size, 0, none⟩) (k + 1) (k + 1)) (.slice none 0 0) ⟨#[]⟩ _ _ _ _ _ _ rfl rfl _).mono ?_
        rintro e v1 ⟨rfl, hb⟩
        have P0_1 : Aside (P3 v1 (w11.heap.size) (.slice none 0 0) (.string ⟨#[]⟩) (.slice none 0 0)) := P0_0.out.later hb
        have P1_1 : Aside (P3 v1 (w11.heap.size + 1) (.slice none 0 0) (.string ⟨#[]⟩) (.slice none 0 0)) := P1_0.out.later hb
        have P2_1 : Aside (P3 v1 (w11.heap.size + 1 + 1) (.slice none 0 0) (.string ⟨#[]⟩) (.slice none 0 0)) := P2_0.out.later hb
        have BB_1 : Aside (Below w12.heap.size w12 v1) := BB_0.out.trans (hb.mono BB_0.out.size)
        clear P0_0 P1_0 P2_0 BB_0 hb
        obtain ⟨d00, d01, d02⟩ := P0_1.out.cells
        have lt0 := P0_1.out.lt
        have z00 := P0_1.out.fz 0
        have z01 := P0_1.out.fz 1
        have z02 := P0_1.out.fz 2
        go_wp2_with fail
        clear d00 d01 d02 lt0 z00 z01 z02
        have P0_2 : Aside (P3 (((v1.setCell ⟨w11.heap.size, 0, none⟩ (.slice (some ⟨w5.heap.size, 0, none⟩) (k + 1) (k + 1))).setCell ⟨w11.heap.size, 1, none⟩ (.string ⟨#[]⟩)).setCell ⟨w11.heap.size, 2, none⟩ (.slice none 0 0)) (w11.heap.size) (.slice (some ⟨w5.heap.size, 0, none⟩) (k + 1) (k + 1)) (.string ⟨#[]⟩) (.slice none 0 0)) := P0_1.out.set _ _ _
        have P1_2 : Aside (P3 (((v1.setCell ⟨w11.heap.size, 0, none⟩ (.slice (some ⟨w5.heap.size, 0, none⟩) (k + 1) (k + 1))).setCell ⟨w11.heap.size, 1, none⟩ (.string ⟨#[]⟩)).setCell ⟨w11.heap.size, 2, none⟩ (.slice none 0 0)) (w11.heap.size + 1) (.slice none 0 0) (.string ⟨#[]⟩) (.slice none 0 0)) := P1_1.out.other (by omega) _ _ _
        have P2_2 : Aside (P3 (((v1.setCell ⟨w11.heap.size, 0, none⟩ (.slice (some ⟨w5.heap.size, 0, none⟩) (k + 1) (k + 1))).setCell ⟨w11.heap.size, 1, none⟩ (.string ⟨#[]⟩)).setCell ⟨w11.heap.size, 2, none⟩ (.slice none 0 0)) (w11.heap.size + 1 + 1) (.slice none 0 0) (.string ⟨#[]⟩) (.slice none 0 0)) := P2_1.out.other (by omega) _ _ _
        have BB_2 : Aside (Below w12.heap.size w12 (((v1.setCell ⟨w11.heap.size, 0, none⟩ (.slice (some ⟨w5.heap.size, 0, none⟩) (k + 1) (k + 1))).setCell ⟨w11.heap.size, 1, none⟩ (.string ⟨#[]⟩)).setCell ⟨w11.heap.size, 2, none⟩ (.slice none 0 0))) := below_set3 BB_1.out (by have := HZ.out; omega) _ _ _
        clear P0_1 P1_1 P2_1 BB_1
        generalize (((v1.setCell ⟨w11.heap.size, 0, none⟩ (.slice (some ⟨w5.heap.size, 0, none⟩) (k + 1) (k + 1))).setCell ⟨w11.heap.size, 1, none⟩ (.string ⟨#[]⟩)).setCell ⟨w11.heap.size, 2, none⟩ (.slice none 0 0)) = v2 at *
        refine (zzpath_any (.slice (some ⟨wr.heap.size + 1, 0, none⟩) (k + 1 + 1) (k + 1 + 1)) (.slice none 0 0) ⟨#[]⟩ _ _ _ _ _ _ rfl rfl _).mono ?_
        rintro e v3 ⟨rfl, hb⟩
        have P0_3 : Aside (P3 v3 (w11.heap.size) (.slice (some ⟨w5.heap.size, 0, none⟩) (k + 1) (k + 1)) (.string ⟨#[]⟩) (.slice none 0 0)) := P0_2.out.later hb
        have P1_3 : Aside (P3 v3 (w11.heap.size + 1) (.slice none 0 0) (.string ⟨#[]⟩) (.slice none 0 0)) := P1_2.out.later hb
        have P2_3 : Aside (P3 v3 (w11.heap.size + 1 + 1) (.slice none 0 0) (.string ⟨#[]⟩) (.slice none 0 0)) := P2_2.out.later hb
        have BB_3 : Aside (Below w12.heap.size w12 v3) := BB_2.out.trans (hb.mono BB_2.out.size)
        clear P0_2 P1_2 P2_2 BB_2 hb
        obtain ⟨d10, d11, d12⟩ := P1_3.out.cells
        have lt1 := P1_3.out.lt
        have z10 := P1_3.out.fz 0
        have z11 := P1_3.out.fz 1
        have z12 := P1_3.out.fz 2
        go_wp2_with fail
        clear d10 d11 d12 lt1 z10 z11 z12
        have P0_4 : Aside (P3 (((v3.setCell ⟨w11.heap.size + 1, 0, none⟩ (.slice (some ⟨wr.heap.size + 1, 0, none⟩) (k + 1 + 1) (k + 1 + 1))).setCell ⟨w11.heap.size + 1, 1, none⟩ (.string ⟨#[]⟩)).setCell ⟨w11.heap.size + 1, 2, none⟩ (.slice none 0 0)) (w11.heap.size) (.slice (some ⟨w5.heap.size, 0, none⟩) (k + 1) (k + 1)) (.string ⟨#[]⟩) (.slice none 0 0)) := P0_3.out.other (by omega) _ _ _
        have P1_4 : Aside (P3 (((v3.setCell ⟨w11.heap.size + 1, 0, none⟩ (.slice (some ⟨wr.heap.size + 1, 0, none⟩) (k + 1 + 1) (k + 1 + 1))).setCell ⟨w11.heap.size + 1, 1, none⟩ (.string ⟨#[]⟩)).setCell ⟨w11.heap.size + 1, 2, none⟩ (.slice none 0 0)) (w11.heap.size + 1) (.slice (some ⟨wr.heap.size + 1, 0, none⟩) (k + 1 + 1) (k + 1 + 1)) (.string ⟨#[]⟩) (.slice none 0 0)) := P1_3.out.set _ _ _
        have P2_4 : Aside (P3 (((v3.setCell ⟨w11.heap.size + 1, 0, none⟩ (.slice (some ⟨wr.heap.size + 1, 0, none⟩) (k + 1 + 1) (k + 1 + 1))).setCell ⟨w11.heap.size + 1, 1, none⟩ (.string ⟨#[]⟩)).setCell ⟨w11.heap.size + 1, 2, none⟩ (.slice none 0 0)) (w11.heap.size + 1 + 1) (.slice none 0 0) (.string ⟨#[]⟩) (.slice none 0 0)) := P2_3.out.other (by omega) _ _ _
        have BB_4 : Aside (Below w12.heap.size w12 (((v3.setCell ⟨w11.heap.size + 1, 0, none⟩ (.slice (some ⟨wr.heap.size + 1, 0, none⟩) (k + 1 + 1) (k + 1 + 1))).setCell ⟨w11.heap.size + 1, 1, none⟩ (.string ⟨#[]⟩)).setCell ⟨w11.heap.size + 1, 2, none⟩ (.slice none 0 0))) := below_set3 BB_3.out (by have := HZ.out; omega) _ _ _
        clear P0_3 P1_3 P2_3 BB_3
        generalize (((v3.setCell ⟨w11.heap.size + 1, 0, none⟩ (.slice (some ⟨wr.heap.size + 1, 0, none⟩) (k + 1 + 1) (k + 1 + 1))).setCell ⟨w11.heap.size + 1, 1, none⟩ (.string ⟨#[]⟩)).setCell ⟨w11.heap.size + 1, 2, none⟩ (.slice none 0 0)) = v4 at *
        refine (zzpath_any (.slice (some ⟨w5.heap.size, 0, none⟩) k (k + 1)) (.slice none 0 0) ⟨#[]⟩ _ _ _ _ _ _ rfl rfl _).mono ?_
        rintro e v5 ⟨rfl, hb⟩
        have P0_5 : Aside (P3 v5 (w11.heap.size) (.slice (some ⟨w5.heap.size, 0, none⟩) (k + 1) (k + 1)) (.string ⟨#[]⟩) (.slice none 0 0)) := P0_4.out.later hb
        have P1_5 : Aside (P3 v5 (w11.heap.size + 1) (.slice (some ⟨wr.heap.size + 1, 0, none⟩) (k + 1 + 1) (k + 1 + 1)) (.string ⟨#[]⟩) (.slice none 0 0)) := P1_4.out.later hb
        have P2_5 : Aside (P3 v5 (w11.heap.size + 1 + 1) (.slice none 0 0) (.string ⟨#[]⟩) (.slice none 0 0)) := P2_4.out.later hb
        have BB_5 : Aside (Below w12.heap.size w12 v5) := BB_4.out.trans (hb.mono BB_4.out.size)
        clear P0_4 P1_4 P2_4 BB_4 hb
        obtain ⟨d20, d21, d22⟩ := P2_5.out.cells
        have lt2 := P2_5.out.lt
        have z20 := P2_5.out.fz 0
        have z21 := P2_5.out.fz 1
        have z22 := P2_5.out.fz 2
        obtain ⟨d00, d01, d02⟩ := P0_5.out.cells
        have lt0 := P0_5.out.lt
        go_wp2_with fail
        clear d00 d01 d02 lt0
        clear d20 d21 d22 lt2 z20 z21 z22
        have P0_6 : Aside (P3 (((v5.setCell ⟨w11.heap.size + 1 + 1, 0, none⟩ (.slice (some ⟨w5.heap.size, 0, none⟩) k (k + 1))).setCell ⟨w11.heap.size + 1 + 1, 1, none⟩ (.string ⟨#[]⟩)).setCell ⟨w11.heap.size + 1 + 1, 2, none⟩ (.slice none 0 0)) (w11.heap.size) (.slice (some ⟨w5.heap.size, 0, none⟩) (k + 1) (k + 1)) (.string ⟨#[]⟩) (.slice none 0 0)) := P0_5.out.other (by omega) _ _ _
        have P1_6 : Aside (P3 (((v5.setCell ⟨w11.heap.size + 1 + 1, 0, none⟩ (.slice (some ⟨w5.heap.size, 0, none⟩) k (k + 1))).setCell ⟨w11.heap.size + 1 + 1, 1, none⟩ (.string ⟨#[]⟩)).setCell ⟨w11.heap.size + 1 + 1, 2, none⟩ (.slice none 0 0)) (w11.heap.size + 1) (.slice (some ⟨wr.heap.size + 1, 0, none⟩) (k + 1 + 1) (k + 1 + 1)) (.string ⟨#[]⟩) (.slice none 0 0)) := P1_5.out.other (by omega) _ _ _
        have P2_6 : Aside (P3 (((v5.setCell ⟨w11.heap.size + 1 + 1, 0, none⟩ (.slice (some ⟨w5.heap.size, 0, none⟩) k (k + 1))).setCell ⟨w11.heap.size + 1 + 1, 1, none⟩ (.string ⟨#[]⟩)).setCell ⟨w11.heap.size + 1 + 1, 2, none⟩ (.slice none 0 0)) (w11.heap.size + 1 + 1) (.slice (some ⟨w5.heap.size, 0, none⟩) k (k + 1)) (.string ⟨#[]⟩) (.slice none 0 0)) := P2_5.out.set _ _ _
        have BB_6 : Aside (Below w12.heap.size w12 (((v5.setCell ⟨w11.heap.size + 1 + 1, 0, none⟩ (.slice (some ⟨w5.heap.size, 0, none⟩) k (k + 1))).setCell ⟨w11.heap.size + 1 + 1, 1, none⟩ (.string ⟨#[]⟩)).setCell ⟨w11.heap.size + 1 + 1, 2, none⟩ (.slice none 0 0))) := below_set3 BB_5.out (by have := HZ.out; omega) _ _ _
        clear P0_5 P1_5 P2_5 BB_5
        generalize (((v5.setCell ⟨w11.heap.size + 1 + 1, 0, none⟩ (.slice (some ⟨w5.heap.size, 0, none⟩) k (k + 1))).setCell ⟨w11.heap.size + 1 + 1, 1, none⟩ (.string ⟨#[]⟩)).setCell ⟨w11.heap.size + 1 + 1, 2, none⟩ (.slice none 0 0)) = v6 at *
        refine (lit_ok0 wr.heap.size w4.heap.size k ss0 (res u ss0) (some ⟨w5.heap.size, 0, none⟩) (k + 1) _ (SS.out.fin BB_6.out).1 HK.out HR.out (SS.out.fin BB_6.out).2.1 hk6 SAME.out).mono ?_
        rintro e v7 ⟨hb, av, cv, rfl⟩
        have P0_7 : Aside (P3 v7 (w11.heap.size) (.slice (some ⟨w5.heap.size, 0, none⟩) (k + 1) (k + 1)) (.string ⟨#[]⟩) (.slice none 0 0)) := P0_6.out.later hb
        have P1_7 : Aside (P3 v7 (w11.heap.size + 1) (.slice (some ⟨wr.heap.size + 1, 0, none⟩) (k + 1 + 1) (k + 1 + 1)) (.string ⟨#[]⟩) (.slice none 0 0)) := P1_6.out.later hb
        have P2_7 : Aside (P3 v7 (w11.heap.size + 1 + 1) (.slice (some ⟨w5.heap.size, 0, none⟩) k (k + 1)) (.string ⟨#[]⟩) (.slice none 0 0)) := P2_6.out.later hb
        have BB_7 : Aside (Below w12.heap.size w12 v7) := BB_6.out.trans (hb.mono BB_6.out.size)
        clear P0_6 P1_6 P2_6 BB_6 hb
        obtain ⟨d10, d11, d12⟩ := P1_7.out.cells
        have lt1 := P1_7.out.lt
        go_wp2_with fail
        clear d10 d11 d12 lt1
        refine (lit_len0 wr.heap.size w4.heap.size k ss0 (some ⟨wr.heap.size + 1, 0, none⟩) (k + 1 + 1) (k + 1 + 1) _ (SS.out.fin BB_7.out).1 hk6 (by omega)).mono ?_
        rintro e v8 ⟨rfl, hb⟩
        have P0_8 : Aside (P3 v8 (w11.heap.size) (.slice (some ⟨w5.heap.size, 0, none⟩) (k + 1) (k + 1)) (.string ⟨#[]⟩) (.slice none 0 0)) := P0_7.out.later hb
        have P1_8 : Aside (P3 v8 (w11.heap.size + 1) (.slice (some ⟨wr.heap.size + 1, 0, none⟩) (k + 1 + 1) (k + 1 + 1)) (.string ⟨#[]⟩) (.slice none 0 0)) := P1_7.out.later hb
        have P2_8 : Aside (P3 v8 (w11.heap.size + 1 + 1) (.slice (some ⟨w5.heap.size, 0, none⟩) k (k + 1)) (.string ⟨#[]⟩) (.slice none 0 0)) := P2_7.out.later hb
        have BB_8 : Aside (Below w12.heap.size w12 v8) := BB_7.out.trans (hb.mono BB_7.out.size)
        clear P0_7 P1_7 P2_7 BB_7 hb
        obtain ⟨d20, d21, d22⟩ := P2_8.out.cells
        have lt2 := P2_8.out.lt
        go_wp2_with fail
        clear d20 d21 d22 lt2
        refine (lit_len0 wr.heap.size w4.heap.size k ss0 (some ⟨w5.heap.size, 0, none⟩) k (k + 1) _ (SS.out.fin BB_8.out).1 hk6 (by omega)).mono ?_
        rintro e v9 ⟨rfl, hb⟩
        have P0_9 : Aside (P3 v9 (w11.heap.size) (.slice (some ⟨w5.heap.size, 0, none⟩) (k + 1) (k + 1)) (.string ⟨#[]⟩) (.slice none 0 0)) := P0_8.out.later hb
        have P1_9 : Aside (P3 v9 (w11.heap.size + 1) (.slice (some ⟨wr.heap.size + 1, 0, none⟩) (k + 1 + 1) (k + 1 + 1)) (.string ⟨#[]⟩) (.slice none 0 0)) := P1_8.out.later hb
        have P2_9 : Aside (P3 v9 (w11.heap.size + 1 + 1) (.slice (some ⟨w5.heap.size, 0, none⟩) k (k + 1)) (.string ⟨#[]⟩) (.slice none 0 0)) := P2_8.out.later hb
        have BB_9 : Aside (Below w12.heap.size w12 v9) := BB_8.out.trans (hb.mono BB_8.out.size)
        clear P0_8 P1_8 P2_8 BB_8 hb
        go_wp2_with fail
        go_ret
        exact ⟨rfl, HB4.out.trans ((SS.out.fin BB_9.out).2.2.mono HB4.out.size)⟩

end Go.Proofs.Qxb6001154a.fnMatchComparesLiteralsByDecodedBytes
