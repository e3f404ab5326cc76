/-
  FnMatchDoubleWildcardBindsTheRest: the walk.
-/
import Derived.Test.Qxb6001154aMem
import Derived.Deep.RegionWith
namespace Go.Proofs.Qxb6001154a.fnMatchDoubleWildcardBindsTheRest
open Go.RowKit

theorem getD_at (ss : List ByteArray) (j : Nat) (h : j < ss.length) : ss.getD j ⟨#[]⟩ = ss[j] := by
  rw [List.getD_eq_getElem?_getD, List.getElem?_eq_getElem h]
  rfl

theorem rg_congr {w : World} {g n : Nat} {K K' : Nat → Int} {T T' : Nat → ByteArray} (h : RG w g n K T) (hk : ∀ i, i < n → K i = K' i) (ht : ∀ i, i < n → T i = T' i) : RG w g n K' T' :=
  ⟨fun j hj => by rw [← hk j hj]; exact h.c0 j hj, fun j hj => by rw [← ht j hj]; exact h.c1 j hj, h.fz, h.lt⟩

/-- The texts laid so far. -/
def upTo (ss : List ByteArray) (j : Nat) (i : Nat) : ByteArray := if i < j then ss.getD i ⟨#[]⟩ else ⟨#[]⟩

theorem upTo_step (ss : List ByteArray) (j : Nat) (h : j < ss.length) (s : ByteArray) (hs : ss[j] = s) (i : Nat) : (if i = j then s else upTo ss j i) = upTo ss (j + 1) i := by
  unfold upTo
  by_cases hij : i = j
  · subst hij
    rw [if_pos rfl, if_pos (by omega), getD_at ss i h, hs]
  · rw [if_neg hij]
    by_cases hlt : i < j
    · rw [if_pos hlt, if_pos (by omega)]
    · rw [if_neg hlt, if_neg (by omega)]

/-- The template and the path's row are laid: what stands in the world w8. -/
theorem stage {w5 wr w8 : World} {ss0 ss1 : List ByteArray} {a2 a3 : Option Addr} (hr : RG wr w5.heap.size (ss0.length + 1) (fun _ => 0) (upTo ss0 ss0.length)) (hB6 : Below w5.heap.size w5 wr) (S2 : SR w5 a2 ss0) (S3 : SR w5 a3 ss1)
    (hrow8 : RowS w8 ((((wr.setCell ⟨w5.heap.size, ss0.length * 2, none⟩ (.int .i64 2)).setCell ⟨w5.heap.size, ss0.length * 2 + 1, none⟩ (.string ⟨#[]⟩)).alloc (.cells #[.slice none 0 0, .int .i64 ss0.length, .int .i64 ((ss0.length : Int) + 1)] 47)).alloc
      (.cells #[.slice (some ⟨w5.heap.size, 0, none⟩) (ss0.length + 1) (ss0.length + 1), .slice (some ⟨wr.heap.size, 0, none⟩) 1 1, .string ⟨#[]⟩] 38)).heap.size (List.replicate (ss0.length + ss1.length) ⟨#[]⟩))
    (hb8 : Below ((((wr.setCell ⟨w5.heap.size, ss0.length * 2, none⟩ (.int .i64 2)).setCell ⟨w5.heap.size, ss0.length * 2 + 1, none⟩ (.string ⟨#[]⟩)).alloc (.cells #[.slice none 0 0, .int .i64 ss0.length, .int .i64 ((ss0.length : Int) + 1)] 47)).alloc
      (.cells #[.slice (some ⟨w5.heap.size, 0, none⟩) (ss0.length + 1) (ss0.length + 1), .slice (some ⟨wr.heap.size, 0, none⟩) 1 1, .string ⟨#[]⟩] 38)).heap.size
      ((((wr.setCell ⟨w5.heap.size, ss0.length * 2, none⟩ (.int .i64 2)).setCell ⟨w5.heap.size, ss0.length * 2 + 1, none⟩ (.string ⟨#[]⟩)).alloc (.cells #[.slice none 0 0, .int .i64 ss0.length, .int .i64 ((ss0.length : Int) + 1)] 47)).alloc
      (.cells #[.slice (some ⟨w5.heap.size, 0, none⟩) (ss0.length + 1) (ss0.length + 1), .slice (some ⟨wr.heap.size, 0, none⟩) 1 1, .string ⟨#[]⟩] 38)) w8) :
    RowS w8 (wr.heap.size + 1 + 1) (List.replicate (ss0.length + ss1.length) ⟨#[]⟩) ∧ TmplD w8 (wr.heap.size + 1) w5.heap.size wr.heap.size ss0 ∧ SR w8 a2 ss0 ∧ SR w8 a3 ss1 ∧ Below w5.heap.size w5 w8 ∧ wr.heap.size + 1 + 1 < w8.heap.size := by
  have hset := hr.set (j := ss0.length) (by omega) 2 ⟨#[]⟩
  generalize hW : (wr.setCell ⟨w5.heap.size, ss0.length * 2, none⟩ (.int .i64 2)).setCell ⟨w5.heap.size, ss0.length * 2 + 1, none⟩ (.string ⟨#[]⟩) = W at *
  have hWs : W.heap.size = wr.heap.size := by rw [← hW]; simp [World.setCell]
  have hBW : Below w5.heap.size w5 W := by rw [← hW]; exact (hB6.setCell (Nat.le_refl _) _).setCell (Nat.le_refl _) _
  clear hW hr hB6
  rw [← hWs] at hrow8 hb8 ⊢
  generalize hV1 : W.alloc (.cells #[.slice none 0 0, .int .i64 ss0.length, .int .i64 ((ss0.length : Int) + 1)] 47) = V1 at *
  have hV1s : V1.heap.size = W.heap.size + 1 := by rw [← hV1]; simp
  have hBV1 : Below W.heap.size W V1 := by rw [← hV1]; exact (Below.refl _ _).alloc (Nat.le_refl _) _
  have c1 : V1.cell? ⟨W.heap.size, 1, none⟩ = some (.int .i64 ss0.length) := by rw [← hV1]; simp
  have c2 : V1.cell? ⟨W.heap.size, 2, none⟩ = some (.int .i64 ((ss0.length : Int) + 1)) := by rw [← hV1]; simp
  clear hV1
  generalize hV2 : V1.alloc (.cells #[.slice (some ⟨w5.heap.size, 0, none⟩) (ss0.length + 1) (ss0.length + 1), .slice (some ⟨W.heap.size, 0, none⟩) 1 1, .string ⟨#[]⟩] 38) = V2 at *
  have hV2s : V2.heap.size = W.heap.size + 1 + 1 := by rw [← hV2]; simp [hV1s]
  have hBV2 : Below V1.heap.size V1 V2 := by rw [← hV2]; exact (Below.refl _ _).alloc (Nat.le_refl _) _
  have e0 : V2.cell? ⟨V1.heap.size, 0, none⟩ = some (.slice (some ⟨w5.heap.size, 0, none⟩) (ss0.length + 1) (ss0.length + 1)) := by rw [← hV2]; simp
  have e1 : V2.cell? ⟨V1.heap.size, 1, none⟩ = some (.slice (some ⟨W.heap.size, 0, none⟩) 1 1) := by rw [← hV2]; simp
  have e2 : V2.cell? ⟨V1.heap.size, 2, none⟩ = some (.string ⟨#[]⟩) := by rw [← hV2]; simp
  clear hV2
  rw [hV1s] at e0 e1 e2 hBV2
  rw [hV2s] at hrow8 hb8
  have lW := hset.lt
  have up : ∀ b o, b < W.heap.size → w8.cell? ⟨b, o, none⟩ = W.cell? ⟨b, o, none⟩ := fun b o h => ((bcell hb8).1 b o (by omega)).trans (((bcell hBV2).1 b o (by omega)).trans ((bcell hBV1).1 b o h))
  have upV : ∀ o, w8.cell? ⟨W.heap.size, o, none⟩ = V1.cell? ⟨W.heap.size, o, none⟩ := fun o => ((bcell hb8).1 _ o (by omega)).trans ((bcell hBV2).1 _ o (by omega))
  have upT : ∀ o, w8.cell? ⟨W.heap.size + 1, o, none⟩ = V2.cell? ⟨W.heap.size + 1, o, none⟩ := fun o => (bcell hb8).1 _ o (by omega)
  have hB8 : Below w5.heap.size w5 w8 := ((hBW.trans (hBV1.mono (by omega))).trans (hBV2.mono (by omega))).trans (hb8.mono (by omega))
  refine ⟨hrow8, ⟨(upT 0).trans e0, (upT 1).trans e1, (upT 2).trans e2, fun j hj => ?_, fun j hj => ?_, ?_, ?_, (upV 1).trans c1, (upV 2).trans c2⟩, S2.later' hB8, S3.later' hB8, hB8, hrow8.lt⟩
  · rw [up _ _ lW, hset.c0 j (by omega), if_neg (by omega)]
  · rw [up _ _ lW, hset.c1 j (by omega), if_neg (by omega)]
    unfold upTo
    rw [if_pos hj, getD_at ss0 j hj]
  · rw [up _ _ lW, hset.c0 ss0.length (by omega), if_pos rfl]
  · rw [up _ _ lW, hset.c1 ss0.length (by omega), if_pos rfl]

/-- 'copy(dst, src)' in a walk. -/
theorem wpList_copy_strs (w : World) {ops : Array Oper} {rest : List Oper} {o : Oper} {a : Act} {Q : Exit → Act → World → Prop}
    (hg : o.guard = none) (d s : Operand) (hop : o.op = .call { callee := .builtin .copy, args := #[d, s], argTypes := #[26, 26] }) (dp : Option Addr) (dLen dCap : Nat) (hd : a.eval d = .slice dp dLen dCap)
    (ao : Option Addr) (sl sc : Nat) (hs : a.eval s = .slice ao sl sc) (hty : o.type = 3) (g : Nat) (cur : List ByteArray) (hrow : RowS w g cur) (off : Nat) (ss : List ByteArray) (hsr : SR w ao ss) (hsl : sl = ss.length) (hle : ss.length ≤ dLen) (hdp : 0 < ss.length → dp = some ⟨g, off, none⟩) (hfit : off + ss.length ≤ cur.length)
    (hK : ∀ w', RowS w' g (cur.take off ++ ss ++ cur.drop (off + ss.length)) → Below g w w' → w'.heap.size = w.heap.size → wpList Try.prog ops Q rest (a.put o.dst (goInt ss.length)) w') :
    wpList Try.prog ops Q (o :: rest) a w := by
  refine wpList_plain hg fun K hK' => ?_
  obtain ⟨w', hrun, hr, hb, hz⟩ := run_copy_strs hrow off dLen dCap dp ao sc ss hsr hle hdp hfit
  subst hsl
  unfold Oper.wp execOp
  rw [hty] at *
  simp only [hop, resolve, invoke, builtin, Sem.run_bind, Sem.run_pure, Result.andThen_ok, List.map_toArray, List.map_cons, List.map_nil, hd, hs, hrun]
  exact hK' _ _ (hK _ hr hb hz)

theorem tmpl_laterD {w w' : World} {bt gs gv : Nat} {texts : List ByteArray} (h : TmplD w bt gs gv texts) {D : Nat} (hb : Below D w w') (l1 : bt < D) (l2 : gs < D) (l3 : gv < D) : TmplD w' bt gs gv texts := by
  have c := (bcell hb).1
  exact ⟨(c _ _ l1).trans h.t0, (c _ _ l1).trans h.t1, (c _ _ l1).trans h.t2, fun j hj => (c _ _ l2).trans (h.s0 j hj), fun j hj => (c _ _ l2).trans (h.s1 j hj), (c _ _ l2).trans h.d0, (c _ _ l2).trans h.d1, (c _ _ l3).trans h.v1, (c _ _ l3).trans h.v2⟩

theorem sr_take {w : World} {ao : Option Addr} {ss : List ByteArray} (h : SR w ao ss) (n : Nat) : SR w ao (ss.take n) := by
  intro j hj
  rw [List.length_take] at hj
  obtain ⟨b, o, e, hc⟩ := h j (by omega)
  exact ⟨b, o, e, by rw [List.getElem_take]; exact hc⟩

/-- What stands after the template and the path's row are laid: the row holds L. -/
structure St (w5 wr w : World) (a2 a3 : Option Addr) (ss0 ss1 L : List ByteArray) : Prop where
  row : RowS w (wr.heap.size + 1 + 1) L
  tm : TmplD w (wr.heap.size + 1) w5.heap.size wr.heap.size ss0
  s2 : SR w a2 ss0
  s3 : SR w a3 ss1
  bel : Below w5.heap.size w5 w
  le : w5.heap.size < wr.heap.size

theorem St.copy {w5 wr w w' : World} {a2 a3 : Option Addr} {ss0 ss1 L L' : List ByteArray} (h : St w5 wr w a2 a3 ss0 ss1 L) (S2 : SR w5 a2 ss0) (S3 : SR w5 a3 ss1) (hrow : RowS w' (wr.heap.size + 1 + 1) L') (hb : Below (wr.heap.size + 1 + 1) w w') : St w5 wr w' a2 a3 ss0 ss1 L' := by
  have hle := h.le
  have hB : Below w5.heap.size w5 w' := h.bel.trans (hb.mono (by omega))
  exact ⟨hrow, tmpl_laterD h.tm hb (by omega) (by omega) (by omega), S2.later' hB, S3.later' hB, hB, hle⟩

theorem lay1 (ss0 : List ByteArray) (r : Nat) (e : ByteArray) : (List.replicate (ss0.length + r) e).take 0 ++ ss0 ++ (List.replicate (ss0.length + r) e).drop (0 + ss0.length) = ss0 ++ List.replicate r e := by
  simp
theorem lay2 (ss0 ss1 : List ByteArray) (e : ByteArray) : (ss0 ++ List.replicate ss1.length e).take ss0.length ++ ss1 ++ (ss0 ++ List.replicate ss1.length e).drop (ss0.length + ss1.length) = ss0 ++ ss1 := by
  simp

theorem jt_facts : ∀ ss : List ByteArray, allwf ss = true → Pl.wf (Lib.joinTail [47] (ss.map (·.data.toList))) = true ∧ Pl.un true (Lib.joinTail [47] (ss.map (·.data.toList))) = Lib.joinTail [47] (dk ss)
  | [], _ => ⟨rfl, rfl⟩
  | s :: ss, h => by
    unfold allwf at h
    rw [List.all_cons, Bool.and_eq_true] at h
    obtain ⟨i1, i2⟩ := jt_facts ss h.2
    have e1 : Lib.joinTail [47] ((s :: ss).map (·.data.toList)) = 47 :: (s.data.toList ++ Lib.joinTail [47] (ss.map (·.data.toList))) := by simp [Lib.joinTail]
    have e2 : Lib.joinTail [47] (dk (s :: ss)) = 47 :: (Pl.un true s.data.toList ++ Lib.joinTail [47] (dk ss)) := by simp [Lib.joinTail, dk]
    rw [e1, e2, Pl.wf_plain (by decide), Pl.un_plain true (by decide), Pl.un_append true _ _ h.1, i2]
    exact ⟨Pl.wf_append _ _ h.1 i1, rfl⟩

theorem j_facts (ss : List ByteArray) (h : allwf ss = true) : Pl.wf (Lib.join (ss.map (·.data.toList)) [47]) = true ∧ us true ⟨(Lib.join (ss.map (·.data.toList)) [47]).toArray⟩ = jks ss := by
  cases ss with
  | nil => exact ⟨rfl, rfl⟩
  | cons s ss =>
    unfold allwf at h
    rw [List.all_cons, Bool.and_eq_true] at h
    obtain ⟨i1, i2⟩ := jt_facts ss h.2
    have e : Pl.un true (Lib.join ((s :: ss).map (·.data.toList)) [47]) = jk (s :: ss) := by
      unfold jk dk
      rw [List.map_cons, List.map_cons, Lib.join_cons, Lib.join_cons, Pl.un_append true _ _ h.1, i2]
      rfl
    refine ⟨?_, ?_⟩
    · rw [List.map_cons, Lib.join_cons]
      exact Pl.wf_append _ _ h.1 i1
    · unfold us jks
      rw [← e]

theorem lens_tot (ss : List ByteArray) : Lib.lens (ss.map (·.data.toList)) = tot ss := by
  induction ss with
  | nil => rfl
  | cons s ss ih =>
    unfold tot Lib.lens at *
    simp only [List.map_cons, List.sum_cons, ih]
    rw [Lib.size_eq]

theorem j_len (ss : List ByteArray) : (Lib.join (ss.map (·.data.toList)) [47]).length ≤ tot ss + ss.length := by
  rw [← lens_tot]
  cases ss with
  | nil => simp [Lib.join]
  | cons s ss =>
    rw [List.map_cons, Lib.join_length]
    simp
    omega

set_option maxRecDepth 100000 in
set_option maxHeartbeats 8000000 in
theorem walk (a0 a1 : Option Addr) (c0 c1 : Nat) (ss0 ss1 : List ByteArray) (w : World) (h0 : SR w a0 ss0) (h1 : SR w a1 ss1) (l0 : ss0.length ≤ maxLen) (l1 : ss1.length ≤ maxLen) :
    Calls Try.prog 8 #[.slice a0 ss0.length c0, .slice a1 ss1.length c1] w fun e w' => e = .returned (.bool true) ∧ Below w.heap.size w w' := by
  have H0 : Aside (SR w a0 ss0) := h0
  have H1 : Aside (SR w a1 ss1) := h1
  have L0 : Aside (ss0.length ≤ maxLen) := l0
  have L1 : Aside (ss1.length ≤ maxLen) := l1
  clear h0 h1
  unfold maxLen at l0 l1
  go_enter Try.func8, Try.ntmps8
  go_wp2_with fail
  refine (bytes27 a0 a1 c0 c1 ss0 ss1 _ H0.out H1.out L0.out L1.out).mono ?_
  rintro e w1 ⟨⟨b, rfl, hbf⟩, rfl⟩
  have HBF : Aside (b = true → fit ss0 ∧ fit ss1) := hbf
  clear hbf
  cases b
  · go_wp2_with fail
    go_ret
    exact ⟨rfl, Below.refl _ _⟩
  obtain ⟨f0, f1⟩ := HBF.out rfl
  have F0 : Aside (fit ss0) := f0
  have F1 : Aside (fit ss1) := f1
  clear f0 f1 HBF
  by_cases q0 : decide ((65536 : Int) < (ss0.length : Int)) = true
  · go_wp2_with fail
    go_ret
    exact ⟨rfl, Below.refl _ _⟩
  have q0 : decide ((65536 : Int) < (ss0.length : Int)) = false := by simpa using q0
  by_cases q1 : decide ((65536 : Int) < (ss1.length : Int)) = true
  · go_wp2_with fail
    go_ret
    exact ⟨rfl, Below.refl _ _⟩
  have q1 : decide ((65536 : Int) < (ss1.length : Int)) = false := by simpa using q1
  have m0 : ss0.length ≤ 65536 := by have := of_decide_eq_false q0; omega
  have m1 : ss1.length ≤ 65536 := by have := of_decide_eq_false q1; omega
  go_wp2_with fail
  refine (sumlen_any a0 c0 ss0 _ H0.out m0 F0.out).mono ?_
  rintro e w2 ⟨⟨n0, rfl, hn0, hq0⟩, rfl⟩
  have Q0 : Aside (n0 ≤ 2097152 → n0 = 16 * ss0.length + tot ss0) := hq0
  clear hq0
  go_wp2_with fail
  refine (sumlen_any a1 c1 ss1 _ H1.out m1 F1.out).mono ?_
  rintro e w2 ⟨⟨n1, rfl, hn1, hq1⟩, rfl⟩
  have Q1 : Aside (n1 ≤ 2097152 → n1 = 16 * ss1.length + tot ss1) := hq1
  clear hq1
  by_cases hs : 1048576 < n0 + n1
  · go_wp2_with fail
    go_ret
    exact ⟨rfl, Below.refl _ _⟩
  have T0 : Aside (tot ss0 ≤ 1048576) := by have := Q0.out (by omega); show _ ≤ _; omega
  have T1 : Aside (tot ss1 ≤ 1048576) := by have := Q1.out (by omega); show _ ≤ _; omega
  clear Q0 Q1
  go_wp2_with fail
  refine (allwf_any a0 c0 ss0 _ H0.out m0 F0.out).mono ?_
  rintro e w3 ⟨rfl, rfl⟩
  cases hw0 : allwf ss0
  · go_wp2_with fail
    go_ret
    exact ⟨rfl, Below.refl _ _⟩
  go_wp2_with fail
  refine (allwf_any a1 c1 ss1 _ H1.out m1 F1.out).mono ?_
  rintro e w3 ⟨rfl, rfl⟩
  cases hw1 : allwf ss1
  · go_wp2_with fail
    go_ret
    exact ⟨rfl, Below.refl _ _⟩
  have W0 : Aside (allwf ss0 = true) := hw0
  have W1 : Aside (allwf ss1 = true) := hw1
  clear hw0 hw1
  go_wp2_with fail
  refine (clone_any a0 c0 ss0 _ H0.out m0).mono ?_
  rintro e w4 ⟨hb4, a2, c2, rfl, hs2, hc2⟩
  go_wp2_with fail
  refine (clone_any a1 c1 ss1 _ (H1.out.later' hb4) m1).mono ?_
  rintro e w5 ⟨hb5, a3, c3, rfl, hs3, hc3⟩
  have hs2 := hs2.later' hb5
  have hB5 := hb4.trans (hb5.mono hb4.size)
  have S2 : Aside (SR w5 a2 ss0) := hs2
  have S3 : Aside (SR w5 a3 ss1) := hs3
  clear hb4 hb5 hs2 hs3 H0 H1
  go_wp2_with (at_make; refine wpList_make_segs w5 rfl (.tmp 49) (.tmp 49) rfl (ss0.length + 1) _ _ rfl rfl (by omega) (by omega) (by omega) ?_; intro w6 hrg hb6 hz6)
  have R6 : Aside (RG w6 w5.heap.size (ss0.length + 1) (fun _ => 0) (fun _ => ⟨#[]⟩)) := hrg
  clear hrg q0 q1 l0 l1 L0 L1
  go_loopg [7] ss0.length (fun g iv wx => ∃ j : Nat, ss0.length - j ≤ g ∧ j ≤ ss0.length ∧ iv = .int .i64 j ∧ RG wx w5.heap.size (ss0.length + 1) (fun _ => 0) (upTo ss0 j) ∧ Below w5.heap.size w5 wx)
  case atStart => exact ⟨0, by omega, by omega, rfl, rg_congr R6.out (fun _ _ => rfl) (fun _ _ => rfl), hb6⟩
  case round =>
    clear R6 hb6 hz6
    obtain ⟨j, hg, hj, rfl, hrg, hB6⟩ := hrel
    have R7 : Aside (RG wr w5.heap.size (ss0.length + 1) (fun _ => 0) (upTo ss0 j)) := hrg
    by_cases hlt : j < ss0.length
    · obtain ⟨b, o, hao, hc⟩ := (S2.out.later' hB6) j hlt
      have hbl := S2.out.lt b o (by omega) hao
      subst hao
      have r0 := hrg.c0 j (by omega)
      have r1 := hrg.c1 j (by omega)
      have r2 := hrg.fz (j * 2)
      have r3 := hrg.fz (j * 2 + 1)
      generalize upTo ss0 j j = old at *
      obtain ⟨s, hs⟩ : ∃ s, ss0[j]'hlt = s := ⟨_, rfl⟩
      rw [hs] at hc
      have HSX : Aside (ss0[j]'hlt = s) := hs
      have hji : (j : Int) < (ss0.length : Int) + 1 := by omega
      clear hs hrg
      go_wp2_with fail
      go_roundg (ss0.length - (j + 1))
      case measure => omega
      case rel => exact ⟨j + 1, by omega, by omega, by go_num, rg_congr (R7.out.set (by omega) 0 s) (fun i _ => by split <;> rfl) (fun i _ => upTo_step ss0 j hlt s HSX.out i), (hB6.setCell (Nat.le_refl _) _).setCell (Nat.le_refl _) _⟩
    · obtain rfl : j = ss0.length := by omega
      have r0 := hrg.c0 ss0.length (by omega)
      have r1 := hrg.c1 ss0.length (by omega)
      have r2 := hrg.fz (ss0.length * 2)
      have r3 := hrg.fz (ss0.length * 2 + 1)
      have lg := hrg.lt
      generalize upTo ss0 ss0.length ss0.length = old at *
      clear hrg hg hj hlt
      obtain hr0 | hr0 : ss1 = [] ∨ 0 < ss1.length := by cases ss1 with
        | nil => exact Or.inl rfl
        | cons x xs => exact Or.inr (by simp)
      · subst hr0
        go_wp2_with (first
          | (at_make; refine wpList_make_vars _ rfl (.const (.int .i64 1)) (.const (.int .i64 1)) rfl rfl rfl ?_)
          | (at_make; refine wpList_make_strs _ rfl (.tmp 82) (.tmp 82) rfl (ss0.length + ([] : List ByteArray).length) _ _ rfl rfl (by simp) (by simp) (by simp; omega) ?_; intro w8 hrow8 hb8 hz8; have hst8 := stage (ss1 := []) R7.out hB6 S2.out S3.out hrow8 hb8; clear hrow8 hb8 hz8; have ST8 : Aside (St w5 wr w8 a2 a3 ss0 [] (List.replicate (ss0.length + ([] : List ByteArray).length) ⟨#[]⟩)) := ⟨hst8.1, hst8.2.1, hst8.2.2.1, hst8.2.2.2.1, hst8.2.2.2.2.1, lg⟩; clear hst8)
          | (refine wpList_copy_strs _ rfl (.tmp 84) (.tmp 85) rfl _ _ _ rfl _ _ _ rfl rfl _ _ ST8.out.row 0 ss0 ST8.out.s2 rfl (by simp) (fun _ => rfl) (by simp) ?_; intro w9 hrow9 hb9 hz9; have ST9 : Aside (St w5 wr w9 a2 a3 ss0 [] (ss0 ++ List.replicate ([] : List ByteArray).length ⟨#[]⟩)) := ST8.out.copy S2.out S3.out (by rw [← lay1]; exact hrow9) hb9; clear hrow9 hb9 hz9 ST8)
          | (refine wpList_copy_strs _ rfl (.tmp 89) (.tmp 90) rfl _ _ _ rfl _ _ _ rfl rfl _ _ ST9.out.row ss0.length [] ST9.out.s3 rfl (by simp) (fun h => by simp at h) (by simp) ?_; intro w10 hrow10 hb10 hz10; have ST10 : Aside (St w5 wr w10 a2 a3 ss0 [] (ss0 ++ [])) := ST9.out.copy S2.out S3.out (by rw [← lay2 ss0 [] ⟨#[]⟩]; exact hrow10) hb10; clear hrow10 hb10 hz10 ST9))
        refine (zzpath_any (.slice (some ⟨wr.heap.size + 1 + 1, 0, none⟩) ss0.length ss0.length) (.slice none 0 0) ⟨#[]⟩ _ _ 0 0 _ none rfl rfl _).mono ?_
        rintro e w11 ⟨rfl, hb11⟩
        go_wp2_with fail
        refine (match_dbl (wr.heap.size + 1) w5.heap.size wr.heap.size ss0 [] (some ⟨wr.heap.size + 1 + 1, 0, none⟩) ss0.length w11 (ST10.out.tm.later hb11) (ST10.out.row.sr.later' hb11) m0 (by simp) (by simp) (by decide) (by decide)).mono ?_
        rintro e w12 ⟨hb12, vals, rfl, hfin⟩
        obtain ⟨_, av, cv, rfl⟩ | ⟨hf, _⟩ := hfin
        case inr => simp at hf
        have hb := hb11.trans (hb12.mono hb11.size)
        clear hb11 hb12
        have ST12 : Aside (TmplD w12 (wr.heap.size + 1) w5.heap.size wr.heap.size ss0 ∧ SR w12 a2 ss0 ∧ Below w5.heap.size w5 w12) := ⟨ST10.out.tm.later hb, ST10.out.s2.later' hb, ST10.out.bel.trans (hb.mono ST10.out.bel.size)⟩
        clear ST10 hb
        by_cases hk1 : 1 ≤ ss0.length
        · have y1 : (1 : Int) ≤ (ss0.length : Int) := by omega
          have y2 : IntKind.i64.wrap ((ss0.length : Int) - 1) = ((ss0.length - 1 : Nat) : Int) := by rw [IntKind.wrap_i64]; omega
          go_wp2_with (first
            | (at_make; refine wpList_make_strs _ rfl (.tmp 132) (.tmp 132) rfl (ss0.length - 1) _ _ rfl rfl (by omega) (by omega) (by omega) ?_; intro w13 hrow13 hb13 hz13)
            | (refine wpList_copy_strs _ rfl (.tmp 134) (.tmp 138) rfl _ _ _ rfl _ _ _ rfl rfl _ _ hrow13 0 (ss0.take (ss0.length - 1)) (sr_take (ST12.out.2.1.later' hb13) _) (by rw [List.length_take]; omega) (by rw [List.length_take]; omega) (fun _ => rfl) (by rw [List.length_take, List.length_replicate]; omega) ?_; intro w14 hrow14 hb14 hz14))
          refine (zzpath_any (.slice (some ⟨w12.heap.size, 0, none⟩) (ss0.length - 1) (ss0.length - 1)) (.slice none 0 0) ⟨#[]⟩ _ _ 0 0 _ none rfl rfl _).mono ?_
          rintro e w15 ⟨rfl, hb15⟩
          have hl12 := ST12.out.1.lt
          have hT15 := (tmpl_laterD (ST12.out.1.later hb13) hb14 hl12.1 hl12.2.1 hl12.2.2).later hb15
          have HT15 : Aside (TmplD w15 (wr.heap.size + 1) w5.heap.size wr.heap.size ss0) := hT15
          have HB15 : Aside (Below w12.heap.size w12 w15) := (hb13.trans hb14).trans (hb15.mono (by rw [hz14, hz13]; omega))
          clear hT15 hb15 hb14 hb13 hrow14 hrow13 hz13 hz14 hl12
          go_wp2_with fail
          refine (match_short_dbl (wr.heap.size + 1) w5.heap.size wr.heap.size ss0 (some ⟨w12.heap.size, 0, none⟩) (ss0.length - 1) (ss0.length - 1) w15 HT15.out m0 (by omega)).mono ?_
          rintro e w16 ⟨rfl, hb16⟩
          have hbe : Below w3.heap.size w3 w16 := by
            have z5 := hB5.size
            have B12 := ST12.out.2.2
            have z12 := B12.size
            have z15 := HB15.out.size
            exact ((hB5.trans (B12.mono z5)).trans (HB15.out.mono (by omega))).trans (hb16.mono (by omega))
          go_wp2_with fail
          go_ret
          exact ⟨rfl, hbe⟩
        · go_wp2_with fail
          go_ret
          exact ⟨rfl, hB5.trans (ST12.out.2.2.mono hB5.size)⟩
      · have hne : ¬ ss1 = [] := fun h => by rw [h] at hr0; simp at hr0
        go_wp2_with (first
          | (at_make; refine wpList_make_vars _ rfl (.const (.int .i64 1)) (.const (.int .i64 1)) rfl rfl rfl ?_)
          | (at_make; refine wpList_make_strs _ rfl (.tmp 82) (.tmp 82) rfl (ss0.length + ss1.length) _ _ rfl rfl (by omega) (by omega) (by omega) ?_; intro w8 hrow8 hb8 hz8; have hst8 := stage (ss1 := ss1) R7.out hB6 S2.out S3.out hrow8 hb8; clear hrow8 hb8 hz8; have ST8 : Aside (St w5 wr w8 a2 a3 ss0 ss1 (List.replicate (ss0.length + (ss1 : List ByteArray).length) ⟨#[]⟩)) := ⟨hst8.1, hst8.2.1, hst8.2.2.1, hst8.2.2.2.1, hst8.2.2.2.2.1, lg⟩; clear hst8)
          | (refine wpList_copy_strs _ rfl (.tmp 84) (.tmp 85) rfl _ _ _ rfl _ _ _ rfl rfl _ _ ST8.out.row 0 ss0 ST8.out.s2 rfl (by simp) (fun _ => rfl) (by simp) ?_; intro w9 hrow9 hb9 hz9; have ST9 : Aside (St w5 wr w9 a2 a3 ss0 ss1 (ss0 ++ List.replicate (ss1 : List ByteArray).length ⟨#[]⟩)) := ST8.out.copy S2.out S3.out (by rw [← lay1]; exact hrow9) hb9; clear hrow9 hb9 hz9 ST8)
          | (refine wpList_copy_strs _ rfl (.tmp 89) (.tmp 90) rfl _ _ _ rfl _ _ _ rfl rfl _ _ ST9.out.row ss0.length ss1 ST9.out.s3 rfl (by simp) (fun _ => rfl) (by simp) ?_; intro w10 hrow10 hb10 hz10; have ST10 : Aside (St w5 wr w10 a2 a3 ss0 ss1 (ss0 ++ ss1)) := ST9.out.copy S2.out S3.out (by rw [← lay2 ss0 ss1 ⟨#[]⟩]; exact hrow10) hb10; clear hrow10 hb10 hz10 ST9))
        refine (zzpath_any (.slice (some ⟨wr.heap.size + 1 + 1, 0, none⟩) (ss0.length + ss1.length) (ss0.length + ss1.length)) (.slice none 0 0) ⟨#[]⟩ _ _ 0 0 _ none rfl rfl _).mono ?_
        rintro e w11 ⟨rfl, hb11⟩
        go_wp2_with fail
        refine (match_dbl (wr.heap.size + 1) w5.heap.size wr.heap.size ss0 ss1 (some ⟨wr.heap.size + 1 + 1, 0, none⟩) (ss0.length + ss1.length) w11 (ST10.out.tm.later hb11) (ST10.out.row.sr.later' hb11) m0 m1 (by simp) (by have := j_len ss1; have := T1.out; omega) (j_facts ss1 W1.out).1).mono ?_
        rintro e w12 ⟨hb12, vals, rfl, hfin⟩
        rw [(j_facts ss1 W1.out).2] at hfin
        obtain ⟨hf, _⟩ | ⟨_, gq, cq, rfl, hp0, hp1⟩ := hfin
        case inl => omega
        have hb := hb11.trans (hb12.mono hb11.size)
        clear hb11 hb12
        have ST12 : Aside (TmplD w12 (wr.heap.size + 1) w5.heap.size wr.heap.size ss0 ∧ SR w12 a2 ss0 ∧ Below w5.heap.size w5 w12) := ⟨ST10.out.tm.later hb, ST10.out.s2.later' hb, ST10.out.bel.trans (hb.mono ST10.out.bel.size)⟩
        have S12 : Aside (SR w12 a3 ss1) := ST10.out.s3.later' hb
        have t1 := ST12.out.1.t1
        clear ST10 hb
        obtain ⟨i47, hi47, _, _, _⟩ := info_parts info47
        have hpe := fun w => Lib.run_neq_ptr_same (P := Try.prog) w ⟨wr.heap.size, 0, none⟩ Try.underlying48 hi47
        go_wp2_with fail
        go_quiet (fail)
        clear hpe hi47 t1
        have hs13 : (w12.drewN nq).cell? ⟨gq, 1, none⟩ = some (.string (jks ss1)) := hp1
        have ST13 : Aside (TmplD (w12.drewN nq) (wr.heap.size + 1) w5.heap.size wr.heap.size ss0 ∧ SR (w12.drewN nq) a2 ss0 ∧ Below w5.heap.size w5 (w12.drewN nq)) :=
          have hw := below_drewN (Below.refl w12.heap.size w12) nq
          ⟨ST12.out.1.later hw, ST12.out.2.1.later' hw, ST12.out.2.2.trans (hw.mono ST12.out.2.2.size)⟩
        have S13 : Aside (SR (w12.drewN nq) a3 ss1) := S12.out.later' (below_drewN (Below.refl w12.heap.size w12) nq)
        have hgq : gq < (w12.drewN nq).heap.size := World.block_lt_of_cell? _ _ hs13
        clear hp0 hp1 ST12 S12
        generalize w12.drewN nq = v at *
        clear w12
        have hbd : Below v.heap.size v v.drew := below_drewN (Below.refl _ _) 1
        have S14 : Aside (SR v.drew a3 ss1) := S13.out.later' hbd
        have hs14 : v.drew.cell? ⟨gq, 1, none⟩ = some (.string (jks ss1)) := hs13
        have hgd : gq < v.drew.heap.size := hgq
        go_wp2_with fail
        go_region_with (go_at_call 28; refine (jdk_any a3 c3 ss1 _ S14.out m1 F1.out W1.out T1.out).mono ?_; rintro e w13 ⟨rfl, hb13⟩; have hc13 := ((bcell hb13).1 gq 1 hgd).trans hs14)
        all_goals
          have hv : Below v.heap.size v w13 := hbd.trans hb13
          have ST12 : Aside (TmplD w13 (wr.heap.size + 1) w5.heap.size wr.heap.size ss0 ∧ SR w13 a2 ss0 ∧ Below w5.heap.size w5 w13) := ⟨ST13.out.1.later hv, ST13.out.2.1.later' hv, ST13.out.2.2.trans (hv.mono ST13.out.2.2.size)⟩
          clear hv hb13 hbd ST13 S13 S14 hs13 hs14 hc13 hgq hgd
          generalize jks ss1 = txt at *
          have hq : (txt.toList == txt.toList) = true := by simp
          by_cases hk1 : 1 ≤ ss0.length
          · have y1 : (1 : Int) ≤ (ss0.length : Int) := by omega
            have y2 : IntKind.i64.wrap ((ss0.length : Int) - 1) = ((ss0.length - 1 : Nat) : Int) := by rw [IntKind.wrap_i64]; omega
            go_wp2_with (first
              | (at_make; refine wpList_make_strs _ rfl (.tmp 132) (.tmp 132) rfl (ss0.length - 1) _ _ rfl rfl (by omega) (by omega) (by omega) ?_; intro w14 hrow14 hb14 hz14)
              | (refine wpList_copy_strs _ rfl (.tmp 134) (.tmp 138) rfl _ _ _ rfl _ _ _ rfl rfl _ _ hrow14 0 (ss0.take (ss0.length - 1)) (sr_take (ST12.out.2.1.later' hb14) _) (by rw [List.length_take]; omega) (by rw [List.length_take]; omega) (fun _ => rfl) (by rw [List.length_take, List.length_replicate]; omega) ?_; intro w15 hrow15 hb15 hz15))
            refine (zzpath_any (.slice (some ⟨w13.heap.size, 0, none⟩) (ss0.length - 1) (ss0.length - 1)) (.slice none 0 0) ⟨#[]⟩ _ _ 0 0 _ none rfl rfl _).mono ?_
            rintro e w16 ⟨rfl, hb16⟩
            have hl12 := ST12.out.1.lt
            have hT15 := (tmpl_laterD (ST12.out.1.later hb14) hb15 hl12.1 hl12.2.1 hl12.2.2).later hb16
            have HT15 : Aside (TmplD w16 (wr.heap.size + 1) w5.heap.size wr.heap.size ss0) := hT15
            have HB15 : Aside (Below w13.heap.size w13 w16) := (hb14.trans hb15).trans (hb16.mono (by rw [hz15, hz14]; omega))
            clear hT15 hb16 hb15 hb14 hrow15 hrow14 hz14 hz15 hl12
            go_wp2_with fail
            refine (match_short_dbl (wr.heap.size + 1) w5.heap.size wr.heap.size ss0 (some ⟨w13.heap.size, 0, none⟩) (ss0.length - 1) (ss0.length - 1) w16 HT15.out m0 (by omega)).mono ?_
            rintro e w17 ⟨rfl, hb17⟩
            have hbe : Below w3.heap.size w3 w17 := by
              have z5 := hB5.size
              have B12 := ST12.out.2.2
              have z12 := B12.size
              have z15 := HB15.out.size
              exact ((hB5.trans (B12.mono z5)).trans (HB15.out.mono (by omega))).trans (hb17.mono (by omega))
            go_wp2_with fail
            go_ret
            exact ⟨rfl, hbe⟩
          · go_wp2_with fail
            go_ret
            exact ⟨rfl, hB5.trans (ST12.out.2.2.mono hB5.size)⟩

end Go.Proofs.Qxb6001154a.fnMatchDoubleWildcardBindsTheRest
