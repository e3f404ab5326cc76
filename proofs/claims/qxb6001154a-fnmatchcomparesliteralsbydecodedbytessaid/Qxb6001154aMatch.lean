/-
  (*Template).Match: what it gives in the cases that the two laws come to.
-/
import Derived.Test.Qxb6001154aDec
namespace Go.Proofs.Qxb6001154a
open Go.RowKit

theorem bcell {B : Nat} {W w1 : World} (hb : Below B W w1) : (∀ b o, b < B → w1.cell? ⟨b, o, none⟩ = W.cell? ⟨b, o, none⟩) ∧ (∀ b o, b < B → w1.frozen? ⟨b, o, none⟩ = W.frozen? ⟨b, o, none⟩) :=
  ⟨fun b o h => hb.cell (p := ⟨b, o, none⟩) h, fun b o h => hb.frozen (p := ⟨b, o, none⟩) h⟩

/-- A template of k literals and a double wildcard, with one variable over the wildcard. -/
structure TmplD (w : World) (bt gs gv : Nat) (texts : List ByteArray) : Prop where
  t0 : w.cell? ⟨bt, 0, none⟩ = some (.slice (some ⟨gs, 0, none⟩) (texts.length + 1) (texts.length + 1))
  t1 : w.cell? ⟨bt, 1, none⟩ = some (.slice (some ⟨gv, 0, none⟩) 1 1)
  t2 : w.cell? ⟨bt, 2, none⟩ = some (.string ⟨#[]⟩)
  s0 : ∀ j, j < texts.length → w.cell? ⟨gs, j * 2, none⟩ = some (.int .i64 0)
  s1 : ∀ j (h : j < texts.length), w.cell? ⟨gs, j * 2 + 1, none⟩ = some (.string texts[j])
  d0 : w.cell? ⟨gs, texts.length * 2, none⟩ = some (.int .i64 2)
  d1 : w.cell? ⟨gs, texts.length * 2 + 1, none⟩ = some (.string ⟨#[]⟩)
  v1 : w.cell? ⟨gv, 1, none⟩ = some (.int .i64 texts.length)
  v2 : w.cell? ⟨gv, 2, none⟩ = some (.int .i64 ((texts.length : Int) + 1))

theorem TmplD.lt {w : World} {bt gs gv : Nat} {texts : List ByteArray} (h : TmplD w bt gs gv texts) : bt < w.heap.size ∧ gs < w.heap.size ∧ gv < w.heap.size :=
  ⟨World.block_lt_of_cell? w _ h.t0, World.block_lt_of_cell? w _ h.d0, World.block_lt_of_cell? w _ h.v1⟩

theorem TmplD.later {w w' : World} {bt gs gv : Nat} {texts : List ByteArray} (h : TmplD w bt gs gv texts) (hb : Below w.heap.size w w') : TmplD w' bt gs gv texts := by
  obtain ⟨l1, l2, l3⟩ := h.lt
  have c := (bcell hb).1
  exact ⟨(c _ _ l1).trans h.t0, (c _ _ l1).trans h.t1, (c _ _ l1).trans h.t2, fun j hj => (c _ _ l2).trans (h.s0 j hj), fun j hj => (c _ _ l2).trans (h.s1 j hj), (c _ _ l2).trans h.d0, (c _ _ l2).trans h.d1, (c _ _ l3).trans h.v1, (c _ _ l3).trans h.v2⟩

set_option maxRecDepth 100000 in
set_option maxHeartbeats 4000000 in
theorem match_short_dbl (bt gs gv : Nat) (texts : List ByteArray) (aS : Option Addr) (lS cS : Nat) (w : World) (h : TmplD w bt gs gv texts) (hk : texts.length ≤ 65536) (hl : lS < texts.length) :
    Calls Try.prog 25 #[.pointer (some ⟨bt, 0, none⟩), .agg #[.slice aS lS cS, .string ⟨#[]⟩, .slice none 0 0]] w fun e w' => e = .returned (.tuple #[.slice none 0 0, .bool false]) ∧ Below w.heap.size w w' := by
  obtain ⟨l1, l2, l3⟩ := h.lt
  have t0 := h.t0; have t1 := h.t1; have t2 := h.t2; have d0 := h.d0
  clear h
  generalize texts.length = k at *
  have f1 : ((lS : Int) != (k : Int) + 1) = true := by rw [bne_iff_ne]; omega
  have f2 : decide (k ≤ lS) = false := decide_eq_false (by omega)
  go_enter Try.func25, Try.ntmps25
  go_wp2_with fail
  go_ret2
  exact ⟨rfl, (Below.refl _ _).alloc (Nat.le_refl _) _⟩

set_option maxRecDepth 100000 in
set_option maxHeartbeats 1000000 in
theorem same_self (a : ByteArray) (w : World) :
    Calls Try.prog 40 #[.string a, .string a] w fun e w' => e = .returned (.bool true) ∧ w' = w := by
  have hq : (a.toList == a.toList) = true := by simp
  go_enter Try.func40, Try.ntmps40
  go_wp2_with fail
  go_ret
  exact ⟨rfl, rfl⟩

theorem tm_facts {w w2 : World} {bt gs gv k : Nat} {texts : List ByteArray} (h : TmplD w bt gs gv texts) (hk : texts.length = k) (hb : Below w.heap.size w w2) :
    w2.cell? ⟨bt, 0, none⟩ = some (.slice (some ⟨gs, 0, none⟩) (k + 1) (k + 1)) ∧ w2.cell? ⟨bt, 1, none⟩ = some (.slice (some ⟨gv, 0, none⟩) 1 1) ∧ w2.cell? ⟨gs, k * 2, none⟩ = some (.int .i64 2) ∧
      w2.cell? ⟨gv, 1, none⟩ = some (.int .i64 k) ∧ w2.cell? ⟨gv, 2, none⟩ = some (.int .i64 ((k : Int) + 1)) := by
  have h2 := h.later hb
  subst hk
  exact ⟨h2.t0, h2.t1, h2.d0, h2.v1, h2.v2⟩

theorem own_later {w w' : World} {base : Nat} {e : TypeId} {size : Nat} {v : Value} {n : Nat} {xs : List Value} (h : w.ownsRow base e size v n xs) (hb : Below w.heap.size w w') : w'.ownsRow base e size v n xs := by
  refine ⟨h.1, ?_⟩
  rcases h.2 with hn | ⟨g, cap, cur, hv, hg, hh, r⟩
  · exact Or.inl hn
  · exact Or.inr ⟨g, cap, cur, hv, hg, by rw [hb.block g (World.ownsRow.lt h g (by rw [hv]; rfl)).2]; exact hh, r⟩

theorem two_cells (w : World) (x y : Value) (t : TypeId) : ∀ j u, [x, y][j]? = some u → (w.alloc (.cells #[x, y] t)).cell? ((⟨w.heap.size, 0, none⟩ : Addr).add j) = some u := by
  intro j u hj
  match j, hj with
  | 0, hj => simp at hj; subst hj; simp [Addr.add]
  | 1, hj => simp at hj; subst hj; rw [Addr.add_lit]; simp
theorem two_one (p : Option Addr) (s : ByteArray) : ∀ u ∈ [Value.pointer p, Value.string s], u.oneCell' = true := by
  intro u hu
  simp at hu
  rcases hu with rfl | rfl <;> rfl

theorem info50 : (Try.prog.info? 50).map (fun i => (i.zero, i.size, i.bytes)) = some (some (.agg #[.pointer none, .string ⟨#[]⟩]), 2, 24) := by kernel_rfl

/-- What Match hands back for literals and a double wildcard: the values' slice. -/
def FinD (w : World) (gv : Nat) (rest : List ByteArray) (txt : ByteArray) (vals : Value) : Prop :=
  (rest.length = 0 ∧ ∃ a c, vals = .slice a 0 c) ∨ (0 < rest.length ∧ ∃ g c, vals = .slice (some ⟨g, 0, none⟩) 1 c ∧ w.cell? ⟨g, 0, none⟩ = some (.pointer (some ⟨gv, 0, none⟩)) ∧ w.cell? ⟨g, 1, none⟩ = some (.string txt))

set_option maxRecDepth 100000 in
set_option maxHeartbeats 4000000 in
theorem match_dbl (bt gs gv : Nat) (texts rest : List ByteArray) (aS : Option Addr) (cS : Nat) (w : World) (h : TmplD w bt gs gv texts) (hS : SR w aS (texts ++ rest)) (hk : texts.length ≤ 65536) (hr : rest.length ≤ 65536) (hc : (texts ++ rest).length ≤ cS)
    (hjl : (Lib.join (rest.map (·.data.toList)) [47]).length ≤ 1073741824) (hjw : Pl.wf (Lib.join (rest.map (·.data.toList)) [47]) = true) :
    Calls Try.prog 25 #[.pointer (some ⟨bt, 0, none⟩), .agg #[.slice aS (texts.length + rest.length) cS, .string ⟨#[]⟩, .slice none 0 0]] w fun e w' => Below w.heap.size w w' ∧ ∃ vals, e = .returned (.tuple #[vals, .bool true]) ∧ FinD w' gv rest (us true ⟨(Lib.join (rest.map (·.data.toList)) [47]).toArray⟩) vals := by
  obtain ⟨l1, l2, l3⟩ := h.lt
  have HT : Aside (TmplD w bt gs gv texts) := h
  have HS : Aside (SR w aS (texts ++ rest)) := hS
  have t0 := h.t0; have t1 := h.t1; have t2 := h.t2; have d0 := h.d0
  have HJL : Aside ((Lib.join (rest.map (·.data.toList)) [47]).length ≤ 1073741824) := hjl
  have HU : Aside (∀ w, Calls Try.prog 38 #[.string ⟨(Lib.join (rest.map (·.data.toList)) [47]).toArray⟩, .bool true] w fun e w' => e = .returned (.string (us true ⟨(Lib.join (rest.map (·.data.toList)) [47]).toArray⟩)) ∧ Below w.heap.size w w') :=
    fun w => unesc_any _ true (by rw [Lib.size_eq]; exact hjl) hjw w
  clear h hS hjl hjw
  generalize hkk : texts.length = k at *
  have HKK : Aside (texts.length = k) := hkk
  clear hkk
  obtain ⟨m, hm⟩ : ∃ m, m = k + rest.length := ⟨_, rfl⟩
  rw [← hm]
  have HM : Aside (m = k + rest.length) := hm
  have hkm : k ≤ m := by omega
  have hmb : m ≤ 131072 := by omega
  clear hm
  have f3 : decide (k ≤ m) = true := decide_eq_true hkm
  cases f1 : ((m : Int) != (k : Int) + 1)
  all_goals
    go_enter Try.func25, Try.ntmps25
    go_wp2_with fail
    go_loopg [78] (k + 1) (fun g iv wx => ∃ j : Nat, (k + 1) - j ≤ g ∧ j ≤ k + 1 ∧ iv = .int .i64 j ∧ Below w.heap.size w wx)
    case atStart => exact ⟨0, by omega, by omega, rfl, (Below.refl _ _).alloc (Nat.le_refl _) _⟩
    case round =>
      clear t0 t1 t2 d0
      obtain ⟨j, hg, hj, rfl, hB⟩ := hrel
      have hT := HT.out.later hB
      by_cases hjk : j < k
      · have hjt : j < texts.length := by rw [HKK.out]; exact hjk
        have q0 := hT.s0 j hjt
        have q1 := hT.s1 j hjt
        obtain ⟨b, o, hao, hcell⟩ := (HS.out.later' hB) j (by rw [List.length_append]; omega)
        subst hao
        rw [List.getElem_append_left hjt] at hcell
        obtain ⟨s, hs⟩ : ∃ s, texts[j]'hjt = s := ⟨_, rfl⟩
        rw [hs] at q1 hcell
        have hz : (j : Int) < (k : Int) + 1 := by omega
        have hz2 : (j : Int) < (m : Int) := by omega
        have lgs : gs < wr.heap.size := by have := hB.size; omega
        have lb : b < wr.heap.size := World.block_lt_of_cell? wr _ hcell
        clear hT hs
        go_wp2_with fail
        have hbw : Below w.heap.size w (wr.alloc (.cells #[.int .i64 0, .string s] 34)) := hB.alloc hB.size _
        have e1 : (wr.alloc (.cells #[.int .i64 0, .string s] 34)).cell? ⟨b, o + j, none⟩ = some (.string s) := by
          rw [(bcell ((Below.refl wr.heap.size wr).alloc (Nat.le_refl _) _)).1 _ _ lb]; exact hcell
        have e2 : (wr.alloc (.cells #[.int .i64 0, .string s] 34)).cell? ⟨wr.heap.size, 1, none⟩ = some (.string s) := by simp
        generalize wr.alloc (.cells #[.int .i64 0, .string s] 34) = W1 at *
        clear hcell q0 q1
        go_quiet ((go_at_call 40; exact Calls.quiet_of_same (same_self _ _)))
        go_wp2_with fail
        go_roundg (k + 1 - (j + 1))
        case measure => omega
        case rel => exact ⟨j + 1, by omega, by omega, by go_num, below_drewN hbw _⟩
      · by_cases hje : j = k
        · subst hje
          have q0 := hT.d0
          have q1 := hT.d1
          rw [HKK.out] at q0 q1
          have hz : (j : Int) < (j : Int) + 1 := by omega
          have lgs : gs < wr.heap.size := by have := hB.size; omega
          clear hT
          go_wp2_with fail
          go_roundg 0
          case measure => omega
          case rel => exact ⟨j + 1, by omega, by omega, by go_num, hB.alloc hB.size _⟩
        · obtain rfl : j = k + 1 := by omega
          have t1 := hT.t1
          have lbt : bt < wr.heap.size := by have := hB.size; omega
          have lgv : gv < wr.heap.size := by have := hB.size; omega
          obtain ⟨i50, hi50, hz50, hs50, hb50⟩ := info_parts info50
          go_wp2_with (at_make; refine wpList_make_own _ rfl (.const (.int .i64 0)) (.tmp 107) 42 rfl wr.heap.size 50 i50 _ 2 Try.underlying42 hi50 hz50 hs50 .i64 .i64 _ 1 rfl rfl (by omega) (by rw [hb50]; omega) (by unfold maxLen; omega) (Nat.le_refl _) ?_; intro w2 hown hgrow; have hB2 := hB.grown hgrow hB.size (fun k hk => by cases hk); obtain ⟨t0b, t1b, d0b, v1b, v2b⟩ := tm_facts HT.out HKK.out hB2)
          clear t1 hT
          go_loopg [11, 114] 1 (fun g vv iv wx => Below w.heap.size w wx ∧ ((g = 1 ∧ iv = .int .i64 0 ∧ vv = .slice (some ⟨wr.heap.size, 0, none⟩) 0 1 ∧ wx.ownsRow wr.heap.size 50 2 (.slice (some ⟨wr.heap.size, 0, none⟩) 0 1) 0 [] ∧ wr.heap.size < wx.heap.size) ∨ (g = 0 ∧ iv = .int .i64 1 ∧ FinD wx gv rest (us true ⟨(Lib.join (rest.map (·.data.toList)) [47]).toArray⟩) vv)))
          case atStart => exact ⟨hB2, Or.inl ⟨rfl, rfl, rfl, hown, (hown.lt _ rfl).2⟩⟩
          case round =>
            clear t0b t1b d0b v1b v2b hown hB2
            obtain ⟨hB2, ⟨rfl, rfl, rfl, hown, hlt2⟩ | ⟨rfl, rfl, hfin⟩⟩ := hrel
            · obtain ⟨t0b, t1b, d0b, v1b, v2b⟩ := tm_facts HT.out HKK.out hB2
              by_cases hmk : m = k
              · have g0 : ((m : Int) == (k : Int)) = true := by rw [beq_iff_eq]; omega
                go_wp2_with fail
                go_roundg 0
                case measure => omega
                case rel => exact ⟨hB2, Or.inr ⟨rfl, rfl, Or.inl ⟨by have := HM.out; omega, _, _, rfl⟩⟩⟩
              · have g0 : ((m : Int) == (k : Int)) = false := by rw [beq_eq_false_iff_ne]; omega
                have hlen : (texts ++ rest).length = m := by rw [List.length_append, HKK.out, HM.out]
                have hkl : k < (texts ++ rest).length := by omega
                obtain ⟨b, o, hao, hcell⟩ := (HS.out.later' hB2) k hkl
                subst hao
                have hcm : m ≤ cS := by omega
                have lb : b < wr.heap.size := World.block_lt_of_cell? wr _ hcell
                clear hlen hkl hcell hc
                go_wp2_with fail
                have x1 : IntKind.i64.wrap ((k : Int) + 1 - (k : Int)) = 1 := by
                  rw [show ((k : Int) + 1 - (k : Int)) = 1 from by omega]; decide
                have x2 : (k : Int) < (k : Int) + 1 := by omega
                have x3 : ¬ (k : Int) < 0 := by omega
                go_quiet (fail)
                clear x1 x3
                have hB3 : Below w.heap.size w (wr.drewN nq) := below_drewN hB2 nq
                have hS3 := HS.out.later' hB3
                have hown3 := hown
                have hlt3 : b < (wr.drewN nq).heap.size := lb
                go_wp2_with fail
                rw [show m - k = rest.length from by have := HM.out; omega]
                refine (Try.strings_Join b (o + k) (cS - k) rest ⟨#[47]⟩ (wr.drewN nq) ?_ hlt3 (by omega) (by have := HM.out; omega) (by have := HJL.out; exact Nat.le_trans this (by omega))).mono ?_
                · intro j x hj
                  obtain ⟨hjl, hjx⟩ := List.getElem?_eq_some_iff.1 hj
                  have hh := SR.at hS3 (j := k + j) (s := x) (by rw [List.length_append, HKK.out]; omega) (by
                    rw [List.getElem_append_right (by rw [HKK.out]; omega)]
                    rw [← hjx]
                    congr 1
                    rw [HKK.out]; omega)
                  rw [← Nat.add_assoc] at hh
                  exact hh
                rintro e w4 ⟨rfl, hb4⟩
                have hB4 := hB3.trans (hb4.mono hB3.size)
                go_wp2_with fail
                refine (HU.out _).mono ?_
                rintro e w5 ⟨rfl, hb5⟩
                have hB5 := hB4.trans (hb5.mono hB4.size)
                generalize (us true ⟨(Lib.join (rest.map (·.data.toList)) [47]).toArray⟩) = txt at *
                have hown5 := own_later hown (((below_drewN (Below.refl _ _) nq).trans hb4).trans (hb5.mono hb4.size))
                go_wp2_with (at_builtin; refine wpList_append_fits _ rfl (.tmp 170) (.tmp 176) 42 rfl _ 50 i50 2 Try.underlying42 hi50 hs50 _ 0 1 [] rfl (World.ownsRow.alloc hown5 _) ⟨w5.heap.size, 0, none⟩ 1 1 [.pointer (some ⟨gv, 0, none⟩), .string txt] rfl rfl (two_cells _ _ _ _) (two_one _ _) (by omega) ?_; intro w6 hown6 hgrow6)
                go_roundg 0
                case measure => omega
                case rel =>
                  refine ⟨(hB5.alloc hB5.size _).grown hgrow6 (by have := hB5.size; simp; omega) (fun q hq => by have := hB.size; simp at hq; omega), Or.inr ⟨rfl, rfl, Or.inr ⟨by have := HM.out; omega, _, _, rfl, ?_, ?_⟩⟩⟩
                  · exact (hown6.cellAt 0 (by omega)).trans rfl
                  · exact (hown6.cellAt 1 (by omega)).trans rfl
            · go_wp2_with fail
              go_ret2
              exact ⟨hB2, _, rfl, hfin⟩


end Go.Proofs.Qxb6001154a
