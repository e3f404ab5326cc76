/-
  ROWS OF STRINGS AND OF SEGMENTS THAT THE CALL ITSELF MAKES; ptb1CloneStrings; ZZPath.
-/
import Derived.Test.Qxb6001154aMatch
import Derived.Laws.IdiomCopy
import Derived.Lib.LazyBuf
namespace Go.Proofs.Qxb6001154a
open Go.RowKit

theorem info9 : (Try.prog.info? 9).map (fun i => (i.zero, i.size, i.bytes)) = some (some (.string ⟨#[]⟩), 1, 16) := by kernel_rfl
theorem info9s : (Try.prog.info? 9).map (·.size) = some 1 := by kernel_rfl
theorem info34 : (Try.prog.info? 34).map (fun i => (i.zero, i.size, i.bytes)) = some (some (.agg #[.int .i64 0, .string ⟨#[]⟩]), 2, 24) := by kernel_rfl
theorem info47 : (Try.prog.info? 47).map (fun i => (i.zero, i.size, i.bytes)) = some (some (.agg #[.slice none 0 0, .int .i64 0, .int .i64 0]), 3, 40) := by kernel_rfl

def scells (ss : List ByteArray) : List Value := ss.map Value.string
theorem scells_length (ss : List ByteArray) : (scells ss).length = ss.length := by unfold scells; rw [List.length_map]
theorem scells_one (ss : List ByteArray) : ∀ u ∈ scells ss, u.oneCell' = true := by
  intro u hu
  unfold scells at hu
  obtain ⟨_, _, rfl⟩ := List.mem_map.1 hu
  rfl

/-- Block g is a row that holds just the strings ss. -/
def RowS (w : World) (g : Nat) (ss : List ByteArray) : Prop := w.heap[g]? = some (.cells (scells ss).toArray 9 (0, 0))

theorem RowS.lt {w : World} {g : Nat} {ss : List ByteArray} (h : RowS w g ss) : g < w.heap.size := (Array.getElem?_eq_some_iff.1 h).1
theorem RowS.cell {w : World} {g : Nat} {ss : List ByteArray} (h : RowS w g ss) {j : Nat} (hj : j < ss.length) : w.cell? ⟨g, j, none⟩ = some (.string ss[j]) := by
  rw [cell_of_row w g j _ 9 (0, 0) h]
  simp [scells, hj]
theorem RowS.frozen {w : World} {g : Nat} {ss : List ByteArray} (h : RowS w g ss) (j : Nat) : w.frozen? ⟨g, j, none⟩ = false := frozen_of_row w g j _ 9 h
theorem RowS.sr {w : World} {g : Nat} {ss : List ByteArray} (h : RowS w g ss) : SR w (some ⟨g, 0, none⟩) ss := fun j hj => ⟨g, 0, rfl, by rw [Nat.zero_add]; exact h.cell hj⟩
theorem RowS.later {w w' : World} {g : Nat} {ss : List ByteArray} (h : RowS w g ss) {D : Nat} (hb : Below D w w') (hD : g < D) : RowS w' g ss := by
  show w'.heap[g]? = _
  rw [hb.block g hD]
  exact h
theorem RowS.set {w : World} {g : Nat} {ss : List ByteArray} (h : RowS w g ss) (j : Nat) (s : ByteArray) : RowS (w.setCell ⟨g, j, none⟩ (.string s)) g (ss.set j s) := by
  show (w.setCell ⟨g, j, none⟩ (.string s)).heap[g]? = _
  rw [heap_setCell_same w g j _ 9 (.string s) h]
  congr 2
  unfold scells
  rw [List.map_set]
  simp

theorem fill_set (ss : List ByteArray) (j : Nat) (hj : j < ss.length) (e : ByteArray) : (ss.take j ++ List.replicate (ss.length - j) e).set j ss[j] = ss.take (j + 1) ++ List.replicate (ss.length - (j + 1)) e := by
  have h1 : (ss.take j).length = j := by rw [List.length_take]; omega
  rw [List.set_append_right _ _ (by omega), h1, Nat.sub_self, take_get hj]
  rw [show ss.length - j = (ss.length - (j + 1)) + 1 from by omega, List.replicate_succ, List.set_cons_zero]
  rw [List.append_assoc]
  rfl

/-- 'make([]string, n)'. -/
theorem wpList_make_strs (w : World) {ops : Array Oper} {rest : List Oper} {o : Oper} {a : Act} {Q : Exit → Act → World → Prop}
    (hg : o.guard = none) (l c : Operand) (hop : o.op = Op.makeSlice 26 l c) (n : Nat) (L C : Int) (hl : a.eval l = .int .i64 L) (hc : a.eval c = .int .i64 C) (hL : L = (n : Int)) (hC : C = (n : Int)) (hn : n ≤ 1048576)
    (hK : ∀ w', RowS w' w.heap.size (List.replicate n ⟨#[]⟩) → Below w.heap.size w w' → w'.heap.size = w.heap.size + 1 → wpList Try.prog ops Q rest (a.put o.dst (.slice (some ⟨w.heap.size, 0, none⟩) n n)) w') :
    wpList Try.prog ops Q (o :: rest) a w := by
  refine wpList_plain hg fun K hK' => ?_
  obtain ⟨i, hi, hz, hs, hb⟩ := info_parts info9
  subst hL hC
  have hrun := run_make (P := Try.prog) w 26 9 i (.string ⟨#[]⟩) Try.underlying26 hi hz .i64 .i64 (n : Int) (n : Int) (by omega) (by omega) (by rw [hb]; omega) (by omega)
  simp only [Int.toNat_natCast, hs, Nat.mul_one] at hrun
  unfold Oper.wp
  simp [execOp, hop, hl, hc, hrun, Result.andThen]
  refine hK' _ _ (hK _ ?_ ((Below.refl _ _).alloc (Nat.le_refl _) _) (by simp))
  show (w.alloc _).heap[w.heap.size]? = _
  rw [heap_alloc_new]
  congr 2
  rw [← Array.toList_inj]
  show (madeCells #[Value.string ⟨#[]⟩] n).toList = _
  rw [toList_madeCells_one]
  unfold scells
  rw [List.map_replicate]

set_option maxRecDepth 100000 in
set_option maxHeartbeats 2000000 in
theorem clone_any (a0 : Option Addr) (c0 : Nat) (ss0 : List ByteArray) (w : World) (h0 : SR w a0 ss0) (l0 : ss0.length ≤ 65536) :
    Calls Try.prog 22 #[.slice a0 ss0.length c0] w fun e w' => Below w.heap.size w w' ∧ ∃ a1 c1, e = .returned (.slice a1 ss0.length c1) ∧ SR w' a1 ss0 ∧ ss0.length ≤ c1 := by
  have H0 : Aside (SR w a0 ss0) := h0
  clear h0
  cases a0 with
  | none =>
    have hl : ss0.length = 0 := by
      by_cases hh : 0 < ss0.length
      · obtain ⟨b, o, e, _⟩ := H0.out 0 hh
        cases e
      · omega
    rw [hl]
    have HL : Aside (ss0.length = 0) := hl
    clear hl
    have hnil := fun w l c => run_eql_slice_nil (P := Try.prog) w 26 9 none l c Try.underlying26
    go_enter Try.func22, Try.ntmps22
    go_wp2_with fail
    go_ret
    exact ⟨Below.refl _ _, none, 0, rfl, fun j hj => by have := HL.out; omega, by omega⟩
  | some ad =>
    have hnil := fun w l c => run_eql_slice_nil (P := Try.prog) w 26 9 (some ad) l c Try.underlying26
    go_enter Try.func22, Try.ntmps22
    go_wp2_with (at_make; refine wpList_make_strs w rfl (.tmp 8) (.tmp 8) rfl ss0.length _ _ rfl rfl rfl rfl (by omega) ?_; intro w1 hrow hbel hsz)
    go_loopg [4] ss0.length (fun g iv wx => ∃ j : Nat, ss0.length - j ≤ g ∧ j ≤ ss0.length ∧ iv = .int .i64 j ∧ RowS wx w.heap.size (ss0.take j ++ List.replicate (ss0.length - j) ⟨#[]⟩) ∧ Below w.heap.size w wx)
    case atStart => exact ⟨0, by omega, by omega, rfl, by simpa using hrow, hbel⟩
    case round =>
      clear hrow hbel hsz
      obtain ⟨j, hg, hj, rfl, hrow, hB⟩ := hrel
      by_cases hlt : j < ss0.length
      · obtain ⟨b, o, hao, hc⟩ := (H0.out.later' hB) j hlt
        have hbl := H0.out.lt b o (by omega) hao
        simp only [Option.some.injEq] at hao
        subst hao
        have hcell : ∃ x, wr.cell? ⟨w.heap.size, j, none⟩ = some x := ⟨_, hrow.cell (by simp; omega)⟩
        obtain ⟨x, hx⟩ := hcell
        have hfz := hrow.frozen j
        have HR : Aside (RowS wr w.heap.size (ss0.take j ++ List.replicate (ss0.length - j) ⟨#[]⟩)) := hrow
        obtain ⟨s, hs⟩ : ∃ s, ss0[j]'hlt = s := ⟨_, rfl⟩
        rw [hs] at hc
        have HS : Aside (ss0[j]'hlt = s) := hs
        clear hs hrow
        go_wp2_with fail
        go_roundg (ss0.length - (j + 1))
        case measure => omega
        case rel =>
          refine ⟨j + 1, by omega, by omega, by go_num, ?_, hB.setCell (Nat.le_refl _) _⟩
          have := HR.out.set j s
          rw [← HS.out, fill_set ss0 j hlt] at this
          rw [HS.out] at this
          exact this
      · have hrow' := hrow
        rw [show ss0.length - j = 0 from by omega, List.take_of_length_le (by omega), List.replicate_zero, List.append_nil] at hrow'
        have HR : Aside (RowS wr w.heap.size ss0) := hrow'
        clear hrow hrow'
        go_wp2_with fail
        go_ret
        exact ⟨hB, _, _, rfl, HR.out.sr, Nat.le_refl _⟩

set_option maxRecDepth 100000 in
set_option maxHeartbeats 1000000 in
theorem zzpath_any (a b : Value) (v : ByteArray) (la ca lb cb : Nat) (aa ab : Option Addr) (ha : a = .slice aa la ca) (hb : b = .slice ab lb cb) (w : World) :
    Calls Try.prog 24 #[a, .string v, b] w fun e w' => e = .returned (.agg #[a, .string v, b]) ∧ Below w.heap.size w w' := by
  subst ha hb
  go_enter Try.func24, Try.ntmps24
  go_wp2_with fail
  exact bodyPost_ret (v := .agg #[.slice aa la ca, .string v, .slice ab lb cb]) (by simp [results, Try.results24, go_sem]) rfl ⟨rfl, (Below.refl _ _).alloc (Nat.le_refl _) _⟩

/-- Block g is a row of n segments: kinds K, texts T. -/
structure RG (w : World) (g n : Nat) (K : Nat → Int) (T : Nat → ByteArray) : Prop where
  c0 : ∀ j, j < n → w.cell? ⟨g, j * 2, none⟩ = some (.int .i64 (K j))
  c1 : ∀ j, j < n → w.cell? ⟨g, j * 2 + 1, none⟩ = some (.string (T j))
  fz : ∀ o, w.frozen? ⟨g, o, none⟩ = false
  lt : g < w.heap.size

theorem RG.later {w w' : World} {g n : Nat} {K : Nat → Int} {T : Nat → ByteArray} (h : RG w g n K T) {D : Nat} (hb : Below D w w') (hD : g < D) : RG w' g n K T :=
  ⟨fun j hj => ((bcell hb).1 _ _ hD).trans (h.c0 j hj), fun j hj => ((bcell hb).1 _ _ hD).trans (h.c1 j hj), fun o => ((bcell hb).2 _ _ hD).trans (h.fz o), Nat.lt_of_lt_of_le h.lt hb.size⟩

theorem RG.set {w : World} {g n : Nat} {K : Nat → Int} {T : Nat → ByteArray} (h : RG w g n K T) {j : Nat} (hj : j < n) (k : Int) (s : ByteArray) :
    RG ((w.setCell ⟨g, j * 2, none⟩ (.int .i64 k)).setCell ⟨g, j * 2 + 1, none⟩ (.string s)) g n (fun i => if i = j then k else K i) (fun i => if i = j then s else T i) := by
  have ne : ∀ a b : Nat, a ≠ b → (⟨g, a, none⟩ : Addr) ≠ ⟨g, b, none⟩ := fun a b hab e => hab (by injection e)
  refine ⟨fun i hi => ?_, fun i hi => ?_, fun o => ?_, ?_⟩
  · rw [World.cell?_setCell_other _ _ _ _ (ne _ _ (by omega))]
    by_cases hij : i = j
    · subst hij
      rw [World.cell?_setCell_same _ _ _ (h.c0 i hi), if_pos rfl]
    · rw [World.cell?_setCell_other _ _ _ _ (ne _ _ (by omega)), h.c0 i hi, if_neg hij]
  · by_cases hij : i = j
    · subst hij
      have hc : (w.setCell ⟨g, i * 2, none⟩ (.int .i64 k)).cell? ⟨g, i * 2 + 1, none⟩ = some (.string (T i)) := by
        rw [World.cell?_setCell_other _ _ _ _ (ne _ _ (by omega))]; exact h.c1 i hi
      rw [World.cell?_setCell_same _ _ _ hc, if_pos rfl]
    · rw [World.cell?_setCell_other _ _ _ _ (ne _ _ (by omega)), World.cell?_setCell_other _ _ _ _ (ne _ _ (by omega)), h.c1 i hi, if_neg hij]
  · rw [World.frozen?_setCell, World.frozen?_setCell]; exact h.fz o
  · simpa [World.setCell] using h.lt

/-- 'make([]Segment, n)'. -/
theorem wpList_make_segs (w : World) {ops : Array Oper} {rest : List Oper} {o : Oper} {a : Act} {Q : Exit → Act → World → Prop}
    (hg : o.guard = none) (l c : Operand) (hop : o.op = Op.makeSlice 31 l c) (n : Nat) (L C : Int) (hl : a.eval l = .int .i64 L) (hc : a.eval c = .int .i64 C) (hL : L = (n : Int)) (hC : C = (n : Int)) (hn : n ≤ 1048576)
    (hK : ∀ w', RG w' w.heap.size n (fun _ => 0) (fun _ => ⟨#[]⟩) → Below w.heap.size w w' → w'.heap.size = w.heap.size + 1 → wpList Try.prog ops Q rest (a.put o.dst (.slice (some ⟨w.heap.size, 0, none⟩) n n)) w') :
    wpList Try.prog ops Q (o :: rest) a w := by
  refine wpList_plain hg fun K hK' => ?_
  obtain ⟨i, hi, hz, hs, hb⟩ := info_parts info34
  subst hL hC
  have hrun := run_make (P := Try.prog) w 31 34 i _ Try.underlying31 hi hz .i64 .i64 (n : Int) (n : Int) (by omega) (by omega) (by rw [hb]; omega) (by omega)
  simp only [Int.toNat_natCast, hs] at hrun
  unfold Oper.wp
  simp [execOp, hop, hl, hc, hrun, Result.andThen]
  have hrow : (w.alloc (.cells (madeCells #[.int .i64 0, .string ⟨#[]⟩] (n * 2)) 34)).heap[w.heap.size]? = some (.cells (madeCells #[.int .i64 0, .string ⟨#[]⟩] (n * 2)) 34 (0, 0)) := heap_alloc_new w _
  refine hK' _ _ (hK _ ⟨fun j hj => ?_, fun j hj => ?_, fun o => frozen_of_row _ _ _ _ 34 hrow, by simp⟩ ((Below.refl _ _).alloc (Nat.le_refl _) _) (by simp))
  · refine (cell_of_row _ _ _ _ 34 (0, 0) hrow).trans ?_
    have h2 : j * 2 < n * 2 := by omega
    simp [madeCells, h2]
  · refine (cell_of_row _ _ _ _ 34 (0, 0) hrow).trans ?_
    have h2 : j * 2 + 1 < n * 2 := by omega
    have h3 : (j * 2 + 1) % 2 = 1 := by omega
    simp [madeCells, h2, h3]

theorem made3 (x y z : Value) : madeCells #[x, y, z] 3 = #[x, y, z] := by
  apply Array.ext
  · simp [madeCells]
  · intro i h1 h2
    simp [madeCells] at h1
    match i, h1 with
    | 0, _ => simp [madeCells]
    | 1, _ => simp [madeCells]
    | 2, _ => simp [madeCells]

/-- 'make([]Variable, 1)'. -/
theorem wpList_make_vars (w : World) {ops : Array Oper} {rest : List Oper} {o : Oper} {a : Act} {Q : Exit → Act → World → Prop}
    (hg : o.guard = none) (l c : Operand) (hop : o.op = Op.makeSlice 36 l c) (hl : a.eval l = .int .i64 1) (hc : a.eval c = .int .i64 1)
    (hK : wpList Try.prog ops Q rest (a.put o.dst (.slice (some ⟨w.heap.size, 0, none⟩) 1 1)) (w.alloc (.cells #[.slice none 0 0, .int .i64 0, .int .i64 0] 47))) :
    wpList Try.prog ops Q (o :: rest) a w := by
  refine wpList_plain hg fun K hK' => ?_
  obtain ⟨i, hi, hz, hs, hb⟩ := info_parts info47
  have hrun := run_make (P := Try.prog) w 36 47 i _ Try.underlying36 hi hz .i64 .i64 1 1 (by omega) (by omega) (by rw [hb]; omega) (by omega)
  rw [hs] at hrun
  unfold Oper.wp
  simp [execOp, hop, hl, hc, hrun, Result.andThen]
  have e : madeCells (Value.agg #[Value.slice none 0 0, Value.int IntKind.i64 0, Value.int IntKind.i64 0]).cells 3 = #[Value.slice none 0 0, Value.int IntKind.i64 0, Value.int IntKind.i64 0] := made3 _ _ _
  rw [e]
  exact hK' _ _ hK

/-- 'copy(dst, src)', src strings, dst a cut of a row of the call's own. -/
theorem run_copy_strs {w : World} {g : Nat} {cur : List ByteArray} (hrow : RowS w g cur) (off dLen dCap : Nat) (dp : Option Addr) (ao : Option Addr) (sc : Nat) (ss : List ByteArray) (hs : SR w ao ss) (hle : ss.length ≤ dLen) (hdp : 0 < ss.length → dp = some ⟨g, off, none⟩) (hfit : off + ss.length ≤ cur.length) :
    ∃ w', (Builtin.copy_ #[26, 26] 3 #[.slice dp dLen dCap, .slice ao ss.length sc]).run Try.prog w = .ok (goInt ss.length) w' ∧ RowS w' g (cur.take off ++ ss ++ cur.drop (off + ss.length)) ∧ Below g w w' ∧ w'.heap.size = w.heap.size := by
  by_cases h0 : ss.length = 0
  · refine ⟨w, ?_, ?_, Below.refl _ _, rfl⟩
    · rw [h0]
      exact run_copy_none w 26 26 3 9 dp ao dLen dCap 0 sc Try.underlying26 info9s (Nat.min_eq_left (Nat.zero_le _))
    · have : ss = [] := List.length_eq_zero_iff.1 h0
      subst this
      simpa using hrow
  · obtain ⟨b, o, rfl, _⟩ := hs 0 (by omega)
    have hd := hdp (by omega)
    subst hd
    have hr := run_copy_row (P := Try.prog) w 26 26 3 9 g off dLen dCap ⟨b, o, none⟩ ss.length sc _ 9 (scells ss) Try.underlying26 info9s hrow (by rw [scells_length]; exact (Nat.min_eq_left hle).symm) ?_ (by simp [scells_length]; omega) (scells_one _)
    · rw [scells_length] at hr
      refine ⟨_, hr, ?_, (Below.refl _ _).trans ⟨rfl, rfl, rfl, by simp [World.setRow], fun k hk => setRow_other w g k _ (by omega)⟩, by simp [World.setRow]⟩
      show (w.setRow g _).heap[g]? = _
      rw [setRow_heap w g _ _ 9 _ hrow]
      congr 2
      simp [scells, List.map_take, List.map_drop]
    · intro j v hj
      have hjl : j < ss.length := by
        have := (List.getElem?_eq_some_iff.1 hj).1
        rwa [scells_length] at this
      rw [Addr.add_lit, SR.at hs hjl rfl]
      rw [← hj]
      simp [scells, hjl]

end Go.Proofs.Qxb6001154a
