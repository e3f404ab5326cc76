/-
  A BUFFER OF BYTES THAT THE CALL ITSELF MADE: make, copy from a string, append of one byte, string(b).
-/
import Derived.Test.Qxb6001154aShelf
import Derived.Test.Qxb6001154aPlain
import Derived.WalkKit
import Derived.Below
import Derived.WalkSmall
import Derived.OwnWalk
import Derived.Laws.OwnMore
import Derived.Laws.IdiomStrings
import Derived.Laws.CopyRow
import Derived.Deep.LoopGhost
import Derived.Deep.QuietTactic
import Derived.BigQuiet
namespace Go.Proofs.Qxb6001154a
open Go.RowKit

theorem info5 : (Try.prog.info? 5).map (fun i => (i.zero, i.size, i.bytes)) = some (some (.int .u8 0), 1, 1) := by kernel_rfl

def bcells (l : List UInt8) : List Value := l.map fun b => Value.int .u8 b.toNat
theorem bcells_length (l : List UInt8) : (bcells l).length = l.length := by unfold bcells; rw [List.length_map]
theorem bcells_one (l : List UInt8) : ∀ u ∈ bcells l, u.oneCell' = true := by
  intro u hu
  unfold bcells at hu
  obtain ⟨_, _, rfl⟩ := List.mem_map.1 hu
  rfl
theorem bcells_append (a b : List UInt8) : bcells (a ++ b) = bcells a ++ bcells b := by unfold bcells; rw [List.map_append]

/-- The slice value v, of the call's own (blocks from B on), holds the bytes l. -/
def OB (w : World) (B : Nat) (v : Value) (l : List UInt8) : Prop := w.ownsRow B 5 1 v l.length (bcells l)

theorem OB.below {w w' : World} {B : Nat} {v : Value} {l : List UInt8} (h : OB w B v l) {D : Nat} (hb : Below D w w') (hD : ∀ g, v.ownBlock = some g → g < D) : OB w' B v l := by
  refine ⟨h.1, ?_⟩
  rcases h.2 with hn | ⟨g, cap, cur, hv, hg, hh, r⟩
  · exact Or.inl hn
  · exact Or.inr ⟨g, cap, cur, hv, hg, by rw [hb.block g (hD g (by rw [hv]; rfl))]; exact hh, r⟩

theorem OB.later {w w' : World} {B : Nat} {v : Value} {l : List UInt8} (h : OB w B v l) (hb : Below w.heap.size w w') : OB w' B v l :=
  h.below hb fun g hg => (World.ownsRow.lt h g hg).2

theorem OB.drewN {w : World} {B : Nat} {v : Value} {l : List UInt8} (h : OB w B v l) (n : Nat) : OB (w.drewN n) B v l := h.later (below_drewN (Below.refl _ _) n)

/-- 'make([]byte, n, m)'. -/
theorem wpList_make_bytes (w : World) {ops : Array Oper} {rest : List Oper} {o : Oper} {a : Act} {Q : Exit → Act → World → Prop}
    (hg : o.guard = none) (l c : Operand) (hop : o.op = Op.makeSlice 53 l c) (B n m : Nat) (L C : Int) (hl : a.eval l = .int .i64 L) (hc : a.eval c = .int .i64 C) (hL : L = (n : Int)) (hC : C = (m : Int))
    (hnm : n ≤ m) (hm : m ≤ 281474976710656) (hB : B ≤ w.heap.size)
    (hK : ∀ v w', OB w' B v (List.replicate n 0) → Below B w w' → wpList Try.prog ops Q rest (a.put o.dst v) w') :
    wpList Try.prog ops Q (o :: rest) a w := by
  refine wpList_plain hg fun K hK' => ?_
  obtain ⟨i, hi, hz, hs, hb⟩ := info_parts info5
  subst hL hC
  have hrun := run_make (P := Try.prog) w 53 5 i (.int .u8 0) Try.underlying53 hi hz .i64 .i64 (n : Int) (m : Int) (by omega) (by omega) (by rw [hb]; omega) (by omega)
  simp only [Int.toNat_natCast, hs, Nat.mul_one] at hrun
  unfold Oper.wp
  simp [execOp, hop, hl, hc, hrun, Result.andThen]
  refine hK' _ _ (hK _ _ ⟨by rw [bcells_length]; simp, Or.inr ⟨w.heap.size, m, _, ?_, hB, heap_alloc_new w _, ?_, ?_, ?_, ?_⟩⟩ ((Below.refl _ _).alloc hB _))
  · rw [List.length_replicate]
  · rw [List.length_replicate]; exact hnm
  · unfold maxLen; omega
  · rw [size_madeCells, Nat.mul_one]
  · show List.take _ (madeCells #[Value.int .u8 0] m).toList = _
    rw [toList_madeCells_one, List.length_replicate, Nat.mul_one, List.take_replicate, Nat.min_eq_left hnm]
    unfold bcells
    rw [List.map_replicate]
    rfl

/-- 'copy(b, s)', s a string that is at least as long as b. -/
theorem run_copy_str {w : World} {B : Nat} {v : Value} {l : List UInt8} (hown : OB w B v l) (s : ByteArray) (hle : l.length ≤ s.size) :
    ∃ w', (Builtin.copy_ #[53, 9] 3 #[v, .string s]).run Try.prog w = .ok (goInt l.length) w' ∧ OB w' B v (s.data.toList.take l.length) ∧ Below B w w' := by
  obtain ⟨i, hi, hz, hs, hb⟩ := info_parts info5
  have hsz := Lib.size_eq s
  have htl : (s.data.toList.take l.length).length = l.length := by rw [List.length_take]; omega
  have hmin : Nat.min s.size l.length = l.length := Nat.min_eq_right hle
  rcases hown.2 with ⟨rfl, h0⟩ | ⟨g, cap, cur, rfl, hbg, hg, hnc, hcm, hcs, htake⟩
  · refine ⟨w, ?_, ?_, Below.refl _ _⟩
    · rw [h0]
      simp [Builtin.copy_, run_underlying Try.underlying53, Builtin.lenOf, Builtin.firstCells, sizeOf, typeInfo, hi]
    · rw [h0, List.take_zero]
      exact ⟨by simp [bcells], Or.inl ⟨rfl, rfl⟩⟩
  · rw [Nat.mul_one] at hcs htake
    have hst := run_storeCells_at Try.prog g 0 5 (bcells (s.data.toList.take l.length)) 0 cur w hg (by rw [bcells_length, htl]; omega) (bcells_one _)
    rw [bcells_length, htl] at hst
    have htk : List.take l.length (List.map (fun b : UInt8 => Value.int IntKind.u8 (b.toNat : Int)) s.data.toList) = bcells (s.data.toList.take l.length) := by
      unfold bcells
      rw [List.map_take]
    simp only [Nat.add_zero] at hst
    refine ⟨w.setRow g (List.take 0 cur.toList ++ bcells (s.data.toList.take l.length) ++ List.drop (0 + l.length) cur.toList).toArray, ?_, ⟨by rw [bcells_length]; omega, Or.inr ⟨g, cap, _, by rw [htl], hbg, setRow_heap w g cur _ 5 _ hg, by rw [htl]; exact hnc, hcm, ?_, ?_⟩⟩,
      ((Below.refl _ _).trans ⟨rfl, rfl, rfl, by simp [World.setRow], fun k hk => setRow_other w g k _ (by omega)⟩)⟩
    · simp [Builtin.copy_, run_underlying Try.underlying53, Builtin.lenOf, Builtin.firstCells, sizeOf, typeInfo, hi, hmin]
      rw [htk, hst]
      simp [Result.andThen]
    · simp [bcells_length, htl]; omega
    · rw [htl, Nat.mul_one]
      simp only [List.take_zero, List.nil_append]
      rw [List.take_append_of_le_length (by rw [bcells_length, htl]; exact Nat.le_refl _), List.take_of_length_le (by rw [bcells_length, htl]; exact Nat.le_refl _)]

/-- 'append(b, y)', one byte. -/
theorem wpList_append_byte (w : World) {ops : Array Oper} {rest : List Oper} {o : Oper} {a : Act} {Q : Exit → Act → World → Prop}
    (hgd : o.guard = none) (s x : Operand) (ho : o.op = .call { callee := .builtin .append, args := #[s, x], argTypes := #[53, 53] })
    (B : Nat) (v : Value) (l : List UInt8) (y : UInt8) (n : Int) (hs : a.eval s = v) (hx : a.eval x = .slice (some ⟨w.heap.size, 0, none⟩) 1 1) (hn : n = (y.toNat : Int))
    (hown : OB w B v l) (hl : l.length < 140737488355328) (hB : B ≤ w.heap.size)
    (hK : ∀ v' w', OB w' B v' (l ++ [y]) → Below B w w' → wpList Try.prog ops Q rest (a.put o.dst v') w') :
    wpList Try.prog ops Q (o :: rest) a (w.alloc (.cells #[.int .u8 n] 5)) := by
  obtain ⟨i, hi, hz, hsz, hb⟩ := info_parts info5
  subst hn
  refine wpList_append_own _ hgd s x 53 ho B 5 i (.int .u8 0) 1 1 Try.underlying53 hi hz hsz hb rfl (by decide) v l.length (bcells l) hs (World.ownsRow.alloc hown _) ⟨w.heap.size, 0, none⟩ 1 1 [.int .u8 y.toNat] hx rfl ?_ ?_ ?_ ?_ ?_ ?_
  · intro j u hj
    match j, hj with
    | 0, hj => simp at hj; subst hj; simp [Addr.add]
  · intro u hu; simp at hu; subst hu; rfl
  · unfold maxLen; omega
  · omega
  · simp; omega
  · intro v' w' hown' hgrow _
    refine hK v' w' ?_ ?_
    · have e : (l ++ [y]).length = l.length + 1 := by simp
      unfold OB
      rw [e, bcells_append]
      exact hown'
    · exact ((Below.refl _ _).alloc hB _).grown hgrow (by simp; omega) (fun k hk => (World.ownsRow.lt hown k hk).1)

/-- 'string(b)'. -/
theorem run_string_of {w : World} {B : Nat} {v : Value} {l : List UInt8} (h : OB w B v l) : (convert 53 9 v).run Try.prog w = .ok (.string ⟨l.toArray⟩) w := by
  rcases h.2 with ⟨rfl, h0⟩ | ⟨g, cap, cur, rfl, hbg, hg, hnc, hcm, hcs, htake⟩
  · have : l = [] := List.length_eq_zero_iff.1 h0
    subst this
    rw [run_convert_bytes_string w 53 9 5 none 0 0 Try.underlying53 Try.underlying5 Try.underlying9]
    simp [Conv.bytesToString]
    rfl
  · refine run_convert_bytes_back w 53 9 5 ⟨g, 0, none⟩ cap l Try.underlying53 Try.underlying5 Try.underlying9 fun j hj => ?_
    have hc := World.ownsRow.cellAt h j (by omega)
    have e : (⟨g, 0, none⟩ : Addr).add j = ⟨g, j, none⟩ := by rw [Addr.add_lit, Nat.zero_add]
    rw [e, hc]
    unfold bcells
    simp [hj]

end Go.Proofs.Qxb6001154a
