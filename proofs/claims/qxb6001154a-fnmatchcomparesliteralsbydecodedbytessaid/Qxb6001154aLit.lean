/-
  (*Template).Match at a template of literals alone, with or without a verb.
-/
import Derived.Test.Qxb6001154aMem
import Derived.Deep.RegionWith
namespace Go.Proofs.Qxb6001154a
open Go.RowKit

/-- A template of k + 1 literals, no variable. -/
structure TmplL (w : World) (bt gs k : Nat) (texts : List ByteArray) (verb : ByteArray) : Prop where
  t0 : w.cell? ⟨bt, 0, none⟩ = some (.slice (some ⟨gs, 0, none⟩) (k + 1) (k + 1))
  t1 : w.cell? ⟨bt, 1, none⟩ = some (.slice none 0 0)
  t2 : w.cell? ⟨bt, 2, none⟩ = some (.string verb)
  s0 : ∀ j, j < k + 1 → w.cell? ⟨gs, j * 2, none⟩ = some (.int .i64 0)
  s1 : ∀ j (h : j < texts.length), w.cell? ⟨gs, j * 2 + 1, none⟩ = some (.string texts[j])

theorem TmplL.lt {w : World} {bt gs k : Nat} {texts : List ByteArray} {verb : ByteArray} (h : TmplL w bt gs k texts verb) : bt < w.heap.size ∧ gs < w.heap.size :=
  ⟨World.block_lt_of_cell? w _ h.t0, World.block_lt_of_cell? w _ (h.s0 0 (by omega))⟩

theorem TmplL.laterD {w w' : World} {bt gs k : Nat} {texts : List ByteArray} {verb : ByteArray} (h : TmplL w bt gs k texts verb) {D : Nat} (hb : Below D w w') (l1 : bt < D) (l2 : gs < D) : TmplL w' bt gs k texts verb := by
  have c := (bcell hb).1
  exact ⟨(c _ _ l1).trans h.t0, (c _ _ l1).trans h.t1, (c _ _ l1).trans h.t2, fun j hj => (c _ _ l2).trans (h.s0 j hj), fun j hj => (c _ _ l2).trans (h.s1 j hj)⟩

theorem TmplL.later {w w' : World} {bt gs k : Nat} {texts : List ByteArray} {verb : ByteArray} (h : TmplL w bt gs k texts verb) (hb : Below w.heap.size w w') : TmplL w' bt gs k texts verb := h.laterD hb h.lt.1 h.lt.2

/-- The two strings are found the same. -/
def Same (a b : ByteArray) : Prop := ∀ w, Calls Try.prog 40 #[.string a, .string b] w fun e w' => e = .returned (.bool true) ∧ Below w.heap.size w w'

set_option maxRecDepth 100000 in
set_option maxHeartbeats 4000000 in
theorem lit_len0 (bt gs k : Nat) (texts : List ByteArray) (aS : Option Addr) (m cS : Nat) (w : World) (h : TmplL w bt gs k texts ⟨#[]⟩) (hk : k ≤ 65536) (hm : m ≠ k + 1) :
    Calls Try.prog 25 #[.pointer (some ⟨bt, 0, none⟩), .agg #[.slice aS m cS, .string ⟨#[]⟩, .slice none 0 0]] w fun e w' => e = .returned (.tuple #[.slice none 0 0, .bool false]) ∧ Below w.heap.size w w' := by
  obtain ⟨l1, l2⟩ := h.lt
  have t0 := h.t0; have t1 := h.t1; have t2 := h.t2; have d0 := h.s0 k (by omega)
  clear h
  have f1 : ((m : Int) != (k : Int) + 1) = true := by rw [bne_iff_ne]; omega
  go_enter Try.func25, Try.ntmps25
  go_wp2_with fail
  go_ret2
  exact ⟨rfl, (Below.refl _ _).alloc (Nat.le_refl _) _⟩

set_option maxRecDepth 100000 in
set_option maxHeartbeats 4000000 in
theorem lit_ok0 (bt gs k : Nat) (texts segs : List ByteArray) (aS : Option Addr) (cS : Nat) (w : World) (h : TmplL w bt gs k texts ⟨#[]⟩) (ht : texts.length = k + 1) (hl : segs.length = k + 1) (hS : SR w aS segs) (hk : k ≤ 65536)
    (hsame : ∀ j (h1 : j < segs.length) (h2 : j < texts.length), Same segs[j] texts[j]) :
    Calls Try.prog 25 #[.pointer (some ⟨bt, 0, none⟩), .agg #[.slice aS (k + 1) cS, .string ⟨#[]⟩, .slice none 0 0]] w fun e w' => Below w.heap.size w w' ∧ ∃ a c, e = .returned (.tuple #[.slice a 0 c, .bool true]) := by
  obtain ⟨l1, l2⟩ := h.lt
  have HT : Aside (TmplL w bt gs k texts ⟨#[]⟩) := h
  have HS : Aside (SR w aS segs) := hS
  have HSAME : Aside (∀ j (h1 : j < segs.length) (h2 : j < texts.length), Same segs[j] texts[j]) := hsame
  have HTL : Aside (texts.length = k + 1) := ht
  have HSL : Aside (segs.length = k + 1) := hl
  have t0 := h.t0; have t1 := h.t1; have t2 := h.t2; have d0 := h.s0 k (by omega)
  clear h hS hsame ht hl
  go_enter Try.func25, Try.ntmps25
  go_wp2_with fail
  go_loopg [78] (k + 1) (fun g iv wx => ∃ j : Nat, (k + 1) - j ≤ g ∧ j ≤ k + 1 ∧ iv = .int .i64 j ∧ Below w.heap.size w wx)
  case atStart => exact ⟨0, by omega, by omega, rfl, (Below.refl _ _).alloc (Nat.le_refl _) _⟩
  case round =>
    clear t0 t1 t2 d0
    obtain ⟨j, hg, hj, rfl, hB⟩ := hrel
    have hT := HT.out.later hB
    by_cases hjk : j < k + 1
    · have h1 : j < segs.length := by rw [HSL.out]; exact hjk
      have h2 : j < texts.length := by rw [HTL.out]; exact hjk
      have q0 := hT.s0 j hjk
      have q1 := hT.s1 j h2
      obtain ⟨b, o, hao, hcell⟩ := (HS.out.later' hB) j h1
      subst hao
      have SAME : Aside (Same segs[j] texts[j]) := HSAME.out j h1 h2
      generalize texts[j] = t at *
      generalize segs[j] = s at *
      have hz : (j : Int) < (k : Int) + 1 := by omega
      have lgs : gs < wr.heap.size := by have := hB.size; omega
      have lb : b < wr.heap.size := World.block_lt_of_cell? wr _ hcell
      clear hT h1 h2
      go_wp2_with fail
      have hbw : Below w.heap.size w (wr.alloc (.cells #[.int .i64 0, .string t] 34)) := hB.alloc hB.size _
      have e1 : (wr.alloc (.cells #[.int .i64 0, .string t] 34)).cell? ⟨b, o + j, none⟩ = some (.string s) := by
        rw [(bcell ((Below.refl wr.heap.size wr).alloc (Nat.le_refl _) _)).1 _ _ lb]; exact hcell
      have e2 : (wr.alloc (.cells #[.int .i64 0, .string t] 34)).cell? ⟨wr.heap.size, 1, none⟩ = some (.string t) := by simp
      generalize wr.alloc (.cells #[.int .i64 0, .string t] 34) = W1 at *
      clear hcell q0 q1
      have e3 : W1.drew.cell? ⟨b, o + j, none⟩ = some (.string s) := e1
      have e4 : W1.drew.cell? ⟨wr.heap.size, 1, none⟩ = some (.string t) := e2
      have hbw : Below w.heap.size w W1.drew := below_drewN hbw 1
      go_region_with (go_at_call 40; refine (SAME.out _).mono ?_; rintro e w2 ⟨rfl, hb2⟩)
      all_goals
        go_wp2_with fail
        go_roundg (k + 1 - (j + 1))
        case measure => omega
        case rel => exact ⟨j + 1, by omega, by omega, by go_num, hbw.trans (hb2.mono hbw.size)⟩
    · obtain rfl : j = k + 1 := by omega
      have t1 := hT.t1
      obtain ⟨i50, hi50, hz50, hs50, hb50⟩ := info_parts info50
      go_wp2_with (at_make; refine wpList_make_own _ rfl (.const (.int .i64 0)) (.tmp 107) 42 rfl wr.heap.size 50 i50 _ 2 Try.underlying42 hi50 hz50 hs50 .i64 .i64 _ 0 rfl rfl (by omega) (by rw [hb50]; omega) (by unfold maxLen; omega) (Nat.le_refl _) ?_; intro w2 hown hgrow; have hB2 := hB.grown hgrow hB.size (fun k hk => by cases hk); have t1b := (HT.out.later hB2).t1)
      go_loopg [11, 114] 0 (fun g vv iv wx => iv = .int .i64 0 ∧ vv = .slice (some ⟨wr.heap.size, 0, none⟩) 0 0 ∧ Below w.heap.size w wx)
      case atStart => exact ⟨rfl, rfl, hB2⟩
      case round =>
        clear hB2 t1b hown hgrow
        obtain ⟨rfl, rfl, hB2⟩ := hrel
        go_wp2_with fail
        go_ret2
        exact ⟨hB2, _, _, rfl⟩

set_option maxRecDepth 100000 in
set_option maxHeartbeats 4000000 in
theorem lit_nostems (bt gs k : Nat) (texts : List ByteArray) (verb ev : ByteArray) (aS : Option Addr) (m cS : Nat) (w : World) (h : TmplL w bt gs k texts verb) (hv : (verb.toList == ([] : List UInt8)) = false) :
    Calls Try.prog 25 #[.pointer (some ⟨bt, 0, none⟩), .agg #[.slice aS m cS, .string ev, .slice none 0 0]] w fun e w' => e = .returned (.tuple #[.slice none 0 0, .bool false]) ∧ Below w.heap.size w w' := by
  obtain ⟨l1, l2⟩ := h.lt
  have t0 := h.t0; have t1 := h.t1; have t2 := h.t2; have d0 := h.s0 k (by omega)
  clear h
  have hnil := fun w l c => run_eql_slice_nil (P := Try.prog) w 26 9 none l c Try.underlying26
  go_enter Try.func25, Try.ntmps25
  go_wp2_with fail
  go_quiet (fail)
  go_wp2_with fail
  go_ret2
  exact ⟨rfl, below_drewN ((Below.refl _ _).alloc (Nat.le_refl _) _) _⟩

set_option maxRecDepth 100000 in
set_option maxHeartbeats 4000000 in
theorem lit_len1 (bt gs k g : Nat) (texts : List ByteArray) (verb ev : ByteArray) (m cS : Nat) (w : World) (h : TmplL w bt gs k texts verb) (hv : (verb.toList == ([] : List UInt8)) = false) (hsv : Same ev verb) (hk : k ≤ 65536) (hm : m ≠ k + 1) :
    Calls Try.prog 25 #[.pointer (some ⟨bt, 0, none⟩), .agg #[.slice none 0 0, .string ev, .slice (some ⟨g, 0, none⟩) m cS]] w fun e w' => e = .returned (.tuple #[.slice none 0 0, .bool false]) ∧ Below w.heap.size w w' := by
  obtain ⟨l1, l2⟩ := h.lt
  have HT : Aside (TmplL w bt gs k texts verb) := h
  have SV : Aside (Same ev verb) := hsv
  have f1 : ((m : Int) != (k : Int) + 1) = true := by rw [bne_iff_ne]; omega
  have t2 := h.t2
  clear h hsv
  have hnil := fun w l c => run_eql_slice_nil (P := Try.prog) w 26 9 (some ⟨g, 0, none⟩) l c Try.underlying26
  go_enter Try.func25, Try.ntmps25
  go_wp2_with fail
  have W1 : Below w.heap.size w (w.alloc (.cells #[.slice none 0 0, .string ev, .slice (some ⟨g, 0, none⟩) m cS] 40)).drew := below_drewN ((Below.refl _ _).alloc (Nat.le_refl _) _) 1
  have e1 : (w.alloc (.cells #[.slice none 0 0, .string ev, .slice (some ⟨g, 0, none⟩) m cS] 40)).drew.cell? ⟨w.heap.size, 1, none⟩ = some (.string ev) := by
    show (w.alloc _).cell? _ = _
    simp
  have e2 : (w.alloc (.cells #[.slice none 0 0, .string ev, .slice (some ⟨g, 0, none⟩) m cS] 40)).drew.cell? ⟨w.heap.size, 2, none⟩ = some (.slice (some ⟨g, 0, none⟩) m cS) := by
    show (w.alloc _).cell? _ = _
    simp
  have l3 : w.heap.size < (w.alloc (.cells #[.slice none 0 0, .string ev, .slice (some ⟨g, 0, none⟩) m cS] 40)).drew.heap.size := by
    show _ < (w.alloc _).heap.size
    simp
  have hT1 := HT.out.later W1
  have t0 := hT1.t0; have t1 := hT1.t1; have t2 := hT1.t2; have d0 := hT1.s0 k (by omega)
  clear hT1
  generalize w.alloc (.cells #[.slice none 0 0, .string ev, .slice (some ⟨g, 0, none⟩) m cS] 40) = V at *
  go_region_with (go_at_call 40; refine (SV.out _).mono ?_; rintro e w2 ⟨rfl, hb2⟩)
  all_goals
    have HB2 : Aside (Below w.heap.size w w2) := W1.trans (hb2.mono W1.size)
    have e2 := ((bcell hb2).1 _ _ l3).trans e2
    have hT1 := HT.out.later HB2.out
    have t0 := hT1.t0; have t1 := hT1.t1; have d0 := hT1.s0 k (by omega)
    clear hT1 e1 W1 t2 l3 hb2
    go_wp2_with fail
    go_ret2
    exact ⟨rfl, HB2.out⟩

set_option maxRecDepth 100000 in
set_option maxHeartbeats 8000000 in
theorem lit_ok1 (bt gs k g : Nat) (texts segs : List ByteArray) (verb ev : ByteArray) (cS : Nat) (w : World) (h : TmplL w bt gs k texts verb) (hv : (verb.toList == ([] : List UInt8)) = false) (hsv : Same ev verb) (ht : texts.length = k + 1) (hl : segs.length = k + 1) (hS : SR w (some ⟨g, 0, none⟩) segs) (hk : k ≤ 65536)
    (hsame : ∀ j (h1 : j < segs.length) (h2 : j < texts.length), Same segs[j] texts[j]) :
    Calls Try.prog 25 #[.pointer (some ⟨bt, 0, none⟩), .agg #[.slice none 0 0, .string ev, .slice (some ⟨g, 0, none⟩) (k + 1) cS]] w fun e w' => Below w.heap.size w w' ∧ ∃ a c, e = .returned (.tuple #[.slice a 0 c, .bool true]) := by
  obtain ⟨l1, l2⟩ := h.lt
  have HT : Aside (TmplL w bt gs k texts verb) := h
  have HS : Aside (SR w (some ⟨g, 0, none⟩) segs) := hS
  have HSAME : Aside (∀ j (h1 : j < segs.length) (h2 : j < texts.length), Same segs[j] texts[j]) := hsame
  have HTL : Aside (texts.length = k + 1) := ht
  have HSL : Aside (segs.length = k + 1) := hl
  have SV : Aside (Same ev verb) := hsv
  have t2 := h.t2
  clear h hS hsame ht hl hsv
  have hnil := fun w l c => run_eql_slice_nil (P := Try.prog) w 26 9 (some ⟨g, 0, none⟩) l c Try.underlying26
  go_enter Try.func25, Try.ntmps25
  go_wp2_with fail
  have W1 : Below w.heap.size w (w.alloc (.cells #[.slice none 0 0, .string ev, .slice (some ⟨g, 0, none⟩) (k + 1) cS] 40)).drew := below_drewN ((Below.refl _ _).alloc (Nat.le_refl _) _) 1
  have e1 : (w.alloc (.cells #[.slice none 0 0, .string ev, .slice (some ⟨g, 0, none⟩) (k + 1) cS] 40)).drew.cell? ⟨w.heap.size, 1, none⟩ = some (.string ev) := by
    show (w.alloc _).cell? _ = _
    simp
  have e2 : (w.alloc (.cells #[.slice none 0 0, .string ev, .slice (some ⟨g, 0, none⟩) (k + 1) cS] 40)).drew.cell? ⟨w.heap.size, 2, none⟩ = some (.slice (some ⟨g, 0, none⟩) (k + 1) cS) := by
    show (w.alloc _).cell? _ = _
    simp
  have l3 : w.heap.size < (w.alloc (.cells #[.slice none 0 0, .string ev, .slice (some ⟨g, 0, none⟩) (k + 1) cS] 40)).drew.heap.size := by
    show _ < (w.alloc _).heap.size
    simp
  have hT1 := HT.out.later W1
  have t0 := hT1.t0; have t1 := hT1.t1; have t2 := hT1.t2; have d0 := hT1.s0 k (by omega)
  clear hT1
  generalize w.alloc (.cells #[.slice none 0 0, .string ev, .slice (some ⟨g, 0, none⟩) (k + 1) cS] 40) = V at *
  go_region_with (go_at_call 40; refine (SV.out _).mono ?_; rintro e w2 ⟨rfl, hb2⟩)
  all_goals
    have HB2 : Aside (Below w.heap.size w w2) := W1.trans (hb2.mono W1.size)
    have e2 := ((bcell hb2).1 _ _ l3).trans e2
    have hT1 := HT.out.later HB2.out
    have t0 := hT1.t0; have t1 := hT1.t1; have d0 := hT1.s0 k (by omega)
    clear hT1 e1 W1 t2 l3 hb2
    go_wp2_with fail
    go_loopg [78] (k + 1) (fun g iv wx => ∃ j : Nat, (k + 1) - j ≤ g ∧ j ≤ k + 1 ∧ iv = .int .i64 j ∧ Below w.heap.size w wx)
    case atStart => exact ⟨0, by omega, by omega, rfl, HB2.out⟩
    case round =>
      clear t0 t1 d0
      obtain ⟨j, hg, hj, rfl, hB⟩ := hrel
      have hT := HT.out.later hB
      by_cases hjk : j < k + 1
      · have h1 : j < segs.length := by rw [HSL.out]; exact hjk
        have h2 : j < texts.length := by rw [HTL.out]; exact hjk
        have q0 := hT.s0 j hjk
        have q1 := hT.s1 j h2
        obtain ⟨b, o, hao, hcell⟩ := (HS.out.later' hB) j h1
        cases hao
        rw [Nat.zero_add] at hcell
        have SAME : Aside (Same segs[j] texts[j]) := HSAME.out j h1 h2
        generalize texts[j] = t at *
        generalize segs[j] = s at *
        have hz : (j : Int) < (k : Int) + 1 := by omega
        have lgs : gs < wr.heap.size := by have := hB.size; omega
        have lb : g < wr.heap.size := World.block_lt_of_cell? wr _ hcell
        clear hT h1 h2
        go_wp2_with fail
        have hbw : Below w.heap.size w (wr.alloc (.cells #[.int .i64 0, .string t] 34)) := hB.alloc hB.size _
        have e1 : (wr.alloc (.cells #[.int .i64 0, .string t] 34)).cell? ⟨g, j, none⟩ = some (.string s) := by
          rw [(bcell ((Below.refl wr.heap.size wr).alloc (Nat.le_refl _) _)).1 _ _ lb]; exact hcell
        have e2 : (wr.alloc (.cells #[.int .i64 0, .string t] 34)).cell? ⟨wr.heap.size, 1, none⟩ = some (.string t) := by simp
        generalize wr.alloc (.cells #[.int .i64 0, .string t] 34) = W1 at *
        clear hcell q0 q1
        have e3 : W1.drew.cell? ⟨g, j, none⟩ = some (.string s) := e1
        have e4 : W1.drew.cell? ⟨wr.heap.size, 1, none⟩ = some (.string t) := e2
        have hbw : Below w.heap.size w W1.drew := below_drewN hbw 1
        go_region_with (go_at_call 40; refine (SAME.out _).mono ?_; rintro e w2 ⟨rfl, hb2⟩)
        all_goals
          go_wp2_with fail
          go_roundg (k + 1 - (j + 1))
          case measure => omega
          case rel => exact ⟨j + 1, by omega, by omega, by go_num, hbw.trans (hb2.mono hbw.size)⟩
      · obtain rfl : j = k + 1 := by omega
        have t1 := hT.t1
        obtain ⟨i50, hi50, hz50, hs50, hb50⟩ := info_parts info50
        go_wp2_with (at_make; refine wpList_make_own _ rfl (.const (.int .i64 0)) (.tmp 107) 42 rfl wr.heap.size 50 i50 _ 2 Try.underlying42 hi50 hz50 hs50 .i64 .i64 _ 0 rfl rfl (by omega) (by rw [hb50]; omega) (by unfold maxLen; omega) (Nat.le_refl _) ?_; intro w2 hown hgrow; have hB2 := hB.grown hgrow hB.size (fun k hk => by cases hk); have t1b := (HT.out.later hB2).t1)
        go_loopg [11, 114] 0 (fun g vv iv wx => iv = .int .i64 0 ∧ vv = .slice (some ⟨wr.heap.size, 0, none⟩) 0 0 ∧ Below w.heap.size w wx)
        case atStart => exact ⟨rfl, rfl, hB2⟩
        case round =>
          clear hB2 t1b hown hgrow
          obtain ⟨rfl, rfl, hB2⟩ := hrel
          go_wp2_with fail
          go_ret2
          exact ⟨hB2, _, _, rfl⟩

end Go.Proofs.Qxb6001154a
