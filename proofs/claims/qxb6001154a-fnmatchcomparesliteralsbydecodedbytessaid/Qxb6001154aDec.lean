/-
  ptb1Decode, ptb1JoinDecodedKeep, sameOctets: what they compute on well-formed texts.
-/
import Derived.Test.Qxb6001154aEnc
import Derived.Test.Qxb6001154aStrs
import Derived.Test.Qxb6001154aShelf2
import Derived.Lib.AppendStr
import Derived.Lib.Join
namespace Go.Proofs.Qxb6001154a
open Go.RowKit

/-- 'append(b, s...)', s a string. -/
theorem wpList_append_str (w : World) {ops : Array Oper} {rest : List Oper} {o : Oper} {a : Act} {Q : Exit → Act → World → Prop}
    (hgd : o.guard = none) (sl x : Operand) (ho : o.op = .call { callee := .builtin .append, args := #[sl, x], argTypes := #[53, 9] })
    (B : Nat) (v : Value) (l : List UInt8) (s : ByteArray) (hs : a.eval sl = v) (hx : a.eval x = .string s) (hown : OB w B v l) (hl : l.length + s.size ≤ 140737488355328) (hB : B ≤ w.heap.size)
    (hK : ∀ v' w', OB w' B v' (l ++ s.data.toList) → Below B w w' → wpList Try.prog ops Q rest (a.put o.dst v') w') :
    wpList Try.prog ops Q (o :: rest) a w := by
  obtain ⟨i, hi, hz, hsz, hb⟩ := info_parts info5
  refine Lib.wpList_append_own_string _ hgd sl x 53 9 ho B 5 i Try.underlying53 Try.underlying9 hi hz hsz hb v l.length (bcells l) hs hown s hx (by unfold maxLen; omega) hl hB ?_
  intro v' w' hown' hgrow _
  refine hK v' w' ?_ ((Below.refl _ _).grown hgrow hB (fun k hk => (World.ownsRow.lt hown k hk).1))
  unfold OB
  rw [bcells_append, List.length_append, ← Lib.size_eq]
  exact hown'

set_option maxRecDepth 100000 in
set_option maxHeartbeats 4000000 in
theorem dec_any (s : ByteArray) (k : Bool) (hs : s.size ≤ 1073741824) (hw : Pl.wf s.data.toList = true) (w : World) :
    Calls Try.prog 23 #[.string s, .bool k] w fun e w' => e = .returned (.string (us k s)) ∧ Below w.heap.size w w' := by
  have HW : Aside (Pl.wf s.data.toList = true) := hw
  clear hw
  go_enter Try.func23, Try.ntmps23
  go_wp2_with (at_make; refine wpList_make_bytes _ rfl (.const (.int .i64 0)) (.tmp 14) rfl w.heap.size 0 s.size _ _ rfl rfl rfl rfl (by omega) (by omega) (Nat.le_refl _) ?_; intro v w1 hob hbel)
  go_loopg [5, 6] s.size (fun g bv iv wx => ∃ (j : Nat) (out : List UInt8), s.size - j ≤ g ∧ j ≤ s.size ∧ iv = .int .i64 j ∧ out.length ≤ j ∧ OB wx w.heap.size bv out ∧ Below w.heap.size w wx ∧ Pl.wf (s.data.toList.drop j) = true ∧ out ++ Pl.un k (s.data.toList.drop j) = Pl.un k s.data.toList)
  case atStart => exact ⟨0, [], by omega, by omega, rfl, by simp, hob, hbel, HW.out, rfl⟩
  case round =>
    clear hob hbel HW
    obtain ⟨j, out, hg, hj, rfl, hol, hob, hB, hw, hu⟩ := hrel
    have HW : Aside (Pl.wf (s.data.toList.drop j) = true) := hw
    have HU : Aside (out ++ Pl.un k (s.data.toList.drop j) = Pl.un k s.data.toList) := hu
    clear hw hu
    by_cases hlt : j < s.size
    · cases hd : s.data.toList.drop j with
      | nil => rw [drop_cons hlt] at hd; cases hd
      | cons x t =>
        have hx := at_of_drop hd hlt
        have hki : (j : Int) < (s.size : Int) := by omega
        have HD : Aside (s.data.toList.drop j = x :: t) := hd
        by_cases h37 : x = 37
        · subst h37
          have hw := HW.out
          rw [HD.out] at hw
          obtain ⟨y, z, t', rfl, e1, e2, hw'⟩ := Pl.wf_pct_inv hw
          have HW' : Aside (Pl.wf t' = true) := hw'
          have hsz := drop_size hd (by simp)
          simp only [List.length_cons] at hsz
          have h2 : ((j : Int) + 2) < (s.size : Int) := by omega
          have d1 := drop_of_drop HD.out
          have d2 := drop_of_drop d1
          have d3 := drop_of_drop d2
          have hy := at_of_drop d1 (by omega)
          have hz : s[j + 2]'(by omega) = z := at_of_drop (k := j + 2) d2 (by omega)
          have HD1 : Aside (s.data.toList.drop (j + 1) = y :: z :: t') := d1
          have HD3 : Aside (s.data.toList.drop (j + 3) = t') := d3
          clear d1 d2 d3 hd hw hw'
          have hor := or_oct e1 e2
          go_wp2_with fail
          refine (hexval_yes y e1 _).mono ?_
          rintro e w2 ⟨rfl, rfl⟩
          go_wp2_with fail
          refine (hexval_yes z e2 _).mono ?_
          rintro e w2 ⟨rfl, rfl⟩
          cases ho : (Pl.oct y z == 47)
          · have hne : (((Pl.oct y z).toNat : Int) == 47) = false := notb47 (by simpa using ho)
            have HK : Aside ((k && Pl.oct y z == 47) = false) := by show _ = _; rw [ho]; simp
            clear ho
            cases k
            all_goals
              go_wp2_with (at_builtin; refine wpList_append_byte w2 rfl (.tmp 58) (.tmp 60) rfl w.heap.size _ out (Pl.oct y z) _ rfl rfl rfl hob (by omega) hB.size ?_; intro v' w3 hob1 hbel1)
              go_roundg (s.size - (j + 3))
              case measure => omega
              case rel => exact ⟨j + 3, out ++ [Pl.oct y z], by omega, by omega, by go_num, by simp; omega, hob1, hB.trans hbel1, by rw [HD3.out]; exact HW'.out, by rw [HD3.out, ← HU.out, HD.out, Pl.un_pct _ y z t' HK.out]; simp⟩
          · have hne : (((Pl.oct y z).toNat : Int) == 47) = true := isb47 (by simpa using ho)
            cases k
            · have HK : Aside ((false && Pl.oct y z == 47) = false) := rfl
              clear ho
              go_wp2_with (at_builtin; refine wpList_append_byte w2 rfl (.tmp 58) (.tmp 60) rfl w.heap.size _ out (Pl.oct y z) _ rfl rfl rfl hob (by omega) hB.size ?_; intro v' w3 hob1 hbel1)
              go_roundg (s.size - (j + 3))
              case measure => omega
              case rel => exact ⟨j + 3, out ++ [Pl.oct y z], by omega, by omega, by go_num, by simp; omega, hob1, hB.trans hbel1, by rw [HD3.out]; exact HW'.out, by rw [HD3.out, ← HU.out, HD.out, Pl.un_pct _ y z t' HK.out]; simp⟩
            · have HO : Aside ((Pl.oct y z == 47) = true) := ho
              clear ho
              go_wp2_with (at_builtin; refine wpList_append_byte w2 rfl (.tmp 64) (.tmp 66) rfl w.heap.size _ out 37 _ rfl rfl rfl hob (by omega) hB.size ?_; intro v' w3 hob1 hbel1)
              go_roundg (s.size - (j + 1))
              case measure => omega
              case rel => exact ⟨j + 1, out ++ [37], by omega, by omega, by go_num, by simp; omega, hob1, hB.trans hbel1, by rw [HD1.out, Pl.wf_plain (Pl.hex_ne e1), Pl.wf_plain (Pl.hex_ne e2)]; exact HW'.out, by rw [HD1.out, ← HU.out, HD.out, Pl.un_keep1 y z t' HO.out]; simp⟩
        · have hn := not37 h37
          clear hd
          go_wp2_with (at_builtin; refine wpList_append_byte wr rfl (.tmp 64) (.tmp 66) rfl w.heap.size _ out x _ rfl rfl rfl hob (by omega) hB.size ?_; intro v' w3 hob1 hbel1)
          go_roundg (s.size - (j + 1))
          case measure => omega
          case rel => exact ⟨j + 1, out ++ [x], by omega, by omega, by go_num, by simp; omega, hob1, hB.trans hbel1, by rw [drop_of_drop HD.out, ← Pl.wf_plain h37, ← HD.out]; exact HW.out, by rw [drop_of_drop HD.out, ← HU.out, HD.out, Pl.un_plain k h37]; simp⟩
    · have hu := HU.out
      rw [drop_end hlt, Pl.un_nil, List.append_nil] at hu
      have hcv := run_string_of hob
      rw [hu] at hcv
      clear hu
      go_wp2_with fail
      go_ret
      exact ⟨rfl, hB⟩

/-! ### joining -/
def dk (ss : List ByteArray) : List (List UInt8) := ss.map fun s => Pl.un true s.data.toList
def jk (ss : List ByteArray) : List UInt8 := Lib.join (dk ss) [47]
def jks (ss : List ByteArray) : ByteArray := ⟨(jk ss).toArray⟩

theorem join_snoc : ∀ (x0 : List UInt8) (xs : List (List UInt8)) (x : List UInt8), Lib.join ((x0 :: xs) ++ [x]) [47] = Lib.join (x0 :: xs) [47] ++ 47 :: x := by
  intro x0 xs x
  rw [List.cons_append, Lib.join_cons, Lib.join_cons]
  simp [Lib.joinTail]

theorem jk_first {ss : List ByteArray} (h : 0 < ss.length) {s : ByteArray} (hs : ss[0] = s) : jk (ss.take 1) = Pl.un true s.data.toList := by
  match ss, h, hs with
  | a :: t, _, hs =>
    have : a = s := hs
    subst this
    show Lib.join [Pl.un true a.data.toList] [47] = _
    rw [Lib.join_one]
theorem jk_next {ss : List ByteArray} {j : Nat} (h : j < ss.length) (h0 : 0 < j) {s : ByteArray} (hs : ss[j] = s) : jk (ss.take (j + 1)) = jk (ss.take j) ++ 47 :: Pl.un true s.data.toList := by
  rw [take_get h, hs]
  unfold jk dk
  rw [List.map_append]
  cases hc : ss.take j with
  | nil =>
    have : (ss.take j).length = j := by rw [List.length_take]; omega
    rw [hc] at this
    simp at this
    omega
  | cons a t => exact join_snoc _ _ _

theorem tot_take_le (ss : List ByteArray) : ∀ j, tot (ss.take j) ≤ tot ss := by
  intro j
  have h : ss = ss.take j ++ ss.drop j := (List.take_append_drop j ss).symm
  have e : tot ss = tot (ss.take j) + tot (ss.drop j) := by
    conv => lhs; rw [h]
    unfold tot
    rw [List.map_append, List.sum_append_nat]
  omega

theorem SR.at {w : World} {b o : Nat} {ss : List ByteArray} (h : SR w (some ⟨b, o, none⟩) ss) {j : Nat} (hj : j < ss.length) {s : ByteArray} (hs : ss[j] = s) : w.cell? ⟨b, o + j, none⟩ = some (.string s) := by
  obtain ⟨b', o', e, hc⟩ := h j hj
  simp only [Option.some.injEq, Addr.mk.injEq, and_true] at e
  obtain ⟨rfl, rfl⟩ := e
  rw [hc, hs]

set_option maxRecDepth 100000 in
set_option maxHeartbeats 4000000 in
theorem jdk_any (a0 : Option Addr) (c0 : Nat) (ss0 : List ByteArray) (w : World) (h0 : SR w a0 ss0) (l0 : ss0.length ≤ 65536) (hf : fit ss0) (hw : allwf ss0 = true) (ht : tot ss0 ≤ 1048576) :
    Calls Try.prog 28 #[.slice a0 ss0.length c0] w fun e w' => e = .returned (.string (jks ss0)) ∧ Below w.heap.size w w' := by
  have H0 : Aside (SR w a0 ss0) := h0
  have HF : Aside (fit ss0) := hf
  have HW : Aside (allwf ss0 = true) := hw
  clear h0 hf hw
  go_enter Try.func28, Try.ntmps28
  go_wp2_with (at_make; refine wpList_make_bytes _ rfl (.const (.int .i64 0)) (.const (.int .i64 0)) rfl w.heap.size 0 0 _ _ rfl rfl rfl rfl (by omega) (by omega) (Nat.le_refl _) ?_; intro v w1 hob hbel)
  go_loopg [3, 4] ss0.length (fun g bv iv wx => ∃ j : Nat, ss0.length - j ≤ g ∧ j ≤ ss0.length ∧ iv = .int .i64 j ∧ (jk (ss0.take j)).length ≤ tot (ss0.take j) + j ∧ OB wx w.heap.size bv (jk (ss0.take j)) ∧ Below w.heap.size w wx)
  case atStart => exact ⟨0, by omega, by omega, rfl, by simp [jk, dk, Lib.join_nil], hob, hbel⟩
  case round =>
    clear hob hbel
    obtain ⟨j, hg, hj, rfl, hlen, hob, hB⟩ := hrel
    by_cases hlt : j < ss0.length
    · obtain ⟨b, o, hao, hc⟩ := (H0.out.later' hB) j hlt
      obtain ⟨s, hs⟩ : ∃ s, ss0[j]'hlt = s := ⟨_, rfl⟩
      have hz := HF.out _ (List.getElem_mem hlt)
      have hws := allwf_get HW.out hlt
      rw [hs] at hc hz hws
      have HS : Aside (ss0[j]'hlt = s) := hs
      have hus : (us true s).size ≤ s.size := by rw [Lib.size_eq, Lib.size_eq, us_data]; exact Pl.un_le true _ hws
      have hts := tot_snoc hlt hs
      have htl := tot_take_le ss0 (j + 1)
      have HD : Aside (∀ w, Calls Try.prog 23 #[.string s, .bool true] w fun e w' => e = .returned (.string (us true s)) ∧ Below w.heap.size w w') := fun w => dec_any s true (by omega) hws w
      have HL : Aside ((jk (ss0.take j)).length ≤ tot (ss0.take j) + j ∧ tot (ss0.take (j + 1)) = tot (ss0.take j) + s.size ∧ tot (ss0.take (j + 1)) ≤ tot ss0) := ⟨hlen, hts, htl⟩
      have hbnd : (jk (ss0.take j)).length + s.size ≤ 1048576 + j := by omega
      clear hs hws hts htl hlen
      generalize hout : jk (ss0.take j) = out at *
      have HOUT : Aside (jk (ss0.take j) = out) := hout
      clear hout
      by_cases hj0 : 0 < j
      · subst hao
        go_wp2_with (at_builtin; refine wpList_append_byte wr rfl (.tmp 14) (.tmp 15) rfl w.heap.size _ out 47 _ rfl rfl rfl hob (by omega) hB.size ?_; intro v1 w2 hob1 hb1; have hc2 := SR.at (H0.out.later' (hB.trans hb1)) hlt HS.out)
        refine (HD.out _).mono ?_
        rintro e w3 ⟨rfl, hb3⟩
        have hob3 := hob1.later hb3
        have hB3 := (hB.trans hb1).trans (hb3.mono (hB.trans hb1).size)
        go_wp2_with (at_builtin; refine wpList_append_str w3 rfl (.tmp 17) (.tmp 22) rfl w.heap.size _ (out ++ [47]) (us true s) rfl rfl hob3 (by simp; omega) hB3.size ?_; intro v4 w4 hob4 hb4)
        go_roundg (ss0.length - (j + 1))
        case measure => omega
        case rel =>
          obtain ⟨q1, q2, q3⟩ := HL.out
          have e1 := jk_next hlt hj0 HS.out
          have e2 := Lib.size_eq (us true s)
          rw [us_data] at e2
          rw [HOUT.out] at e1
          refine ⟨j + 1, by omega, by omega, by go_num, ?_, ?_, hB3.trans hb4⟩
          · rw [e1, List.length_append, List.length_cons]; omega
          · rw [e1]
            have e3 : out ++ 47 :: Pl.un true s.data.toList = out ++ [47] ++ (us true s).data.toList := by rw [us_data]; simp
            rw [e3]
            exact hob4
      · obtain rfl : j = 0 := by omega
        subst hao
        have hc0 : wr.cell? ⟨b, o, none⟩ = some (.string s) := hc
        clear hc
        go_wp2_with fail
        refine (HD.out _).mono ?_
        rintro e w3 ⟨rfl, hb3⟩
        have hob3 := hob.later hb3
        have hB3 := hB.trans (hb3.mono hB.size)
        go_wp2_with (at_builtin; refine wpList_append_str w3 rfl (.tmp 17) (.tmp 22) rfl w.heap.size _ out (us true s) rfl rfl hob3 (by omega) hB3.size ?_; intro v4 w4 hob4 hb4)
        go_roundg (ss0.length - 1)
        case measure => omega
        case rel =>
          obtain ⟨q1, q2, q3⟩ := HL.out
          have e1 := jk_first hlt HS.out
          have e2 := Lib.size_eq (us true s)
          rw [us_data] at e2
          have e0 : out = [] := HOUT.out.symm
          rw [e0] at hob4
          refine ⟨1, by omega, by omega, by go_num, ?_, ?_, hB3.trans hb4⟩
          · rw [e1]; simp only [Nat.zero_add] at q2; omega
          · rw [e1]
            exact hob4
    · have hcv := run_string_of hob
      rw [List.take_of_length_le (by omega)] at hcv
      go_wp2_with fail
      go_ret
      exact ⟨rfl, hB⟩

/-! ### sameOctets where the two stand for the same bytes -/
theorem us_of_nopct (k : Bool) (a : ByteArray) (h : a.data.toList.contains 37 = false) : us k a = a := by
  show (⟨(Pl.un k a.data.toList).toArray⟩ : ByteArray) = a
  rw [Pl.un_nopct k _ (fun b hb e => by rw [e] at hb; simp [hb] at h), Lib.mk_data]

theorem idx_contains (l : List UInt8) : decide (0 ≤ Lib.indexByte l 37) = l.contains 37 := by
  rcases index_of l with ⟨h1, h2⟩ | ⟨i, h1, h2, _⟩
  · rw [h1]
    have : l.contains 37 = false := by
      rw [Bool.eq_false_iff]
      intro h
      simp at h
      exact h2 37 h rfl
    rw [this]
    rfl
  · rw [h1]
    have hm : (37 : UInt8) ∈ l := by
      by_cases hh : (37 : UInt8) ∈ l
      · exact hh
      · exfalso
        have gen : ∀ t : List UInt8, (37 : UInt8) ∉ t → Lib.indexByte t 37 = -1 := by
          intro t
          induction t with
          | nil => intro _; rfl
          | cons a t ih =>
            intro hn
            simp only [List.mem_cons, not_or] at hn
            have ha : (a == 37) = false := by simpa using fun e => hn.1 e.symm
            rw [Lib.indexByte, ha, ih hn.2]
            rfl
        rw [gen l hh] at h1
        omega
    rw [decide_eq_true (by omega)]
    simp [hm]

set_option maxRecDepth 100000 in
set_option maxHeartbeats 4000000 in
theorem same_true (a b : ByteArray) (ha : a.size ≤ 1073741824) (hb : b.size ≤ 1073741824) (wa : Pl.wf a.data.toList = true) (wb : Pl.wf b.data.toList = true) (he : us false a = us false b) (w : World) :
    Calls Try.prog 40 #[.string a, .string b] w fun e w' => e = .returned (.bool true) ∧ Below w.heap.size w w' := by
  have HA : Aside (∀ w, Calls Try.prog 38 #[.string a, .bool false] w fun e w' => e = .returned (.string (us false a)) ∧ Below w.heap.size w w') := fun w => unesc_any a false ha wa w
  have HB : Aside (∀ w, Calls Try.prog 38 #[.string b, .bool false] w fun e w' => e = .returned (.string (us false b)) ∧ Below w.heap.size w w') := fun w => unesc_any b false hb wb w
  have CA : Aside (∀ w, Calls Try.prog 50 #[.string a, .string ⟨#[37]⟩] w fun e w' => e = .returned (.bool (a.data.toList.contains 37)) ∧ w' = w) := fun w => by rw [← idx_contains]; exact Try.strings_Contains_one a 37 w
  have CB : Aside (∀ w, Calls Try.prog 50 #[.string b, .string ⟨#[37]⟩] w fun e w' => e = .returned (.bool (b.data.toList.contains 37)) ∧ w' = w) := fun w => by rw [← idx_contains]; exact Try.strings_Contains_one b 37 w
  cases hq : (a.toList == b.toList)
  · have hne : a ≠ b := by
      rintro rfl
      simp at hq
    have hsame : ((us false a).toList == (us false b).toList) = true := by rw [he]; simp
    cases h1 : a.data.toList.contains 37
    · cases h2 : b.data.toList.contains 37
      · exfalso
        rw [us_of_nopct false a h1, us_of_nopct false b h2] at he
        exact hne he
      · rw [h1] at CA
        rw [h2] at CB
        clear h1 h2 wa wb he hne
        generalize us false a = ua at *
        generalize us false b = ub at *
        go_enter Try.func40, Try.ntmps40
        go_wp2_with fail
        refine (CA.out _).mono ?_
        rintro e w1 ⟨rfl, rfl⟩
        go_wp2_with fail
        refine (CB.out _).mono ?_
        rintro e w1 ⟨rfl, rfl⟩
        go_wp2_with fail
        refine (HA.out _).mono ?_
        rintro e w2 ⟨rfl, b2⟩
        go_wp2_with fail
        refine (HB.out _).mono ?_
        rintro e w3 ⟨rfl, b3⟩
        have b2 := b2.trans (b3.mono b2.size)
        clear b3
        go_wp2_with fail
        go_ret
        exact ⟨by simp, b2⟩
    · rw [h1] at CA
      clear h1 wa wb he hne
      generalize us false a = ua at *
      generalize us false b = ub at *
      go_enter Try.func40, Try.ntmps40
      go_wp2_with fail
      refine (CA.out _).mono ?_
      rintro e w1 ⟨rfl, rfl⟩
      go_wp2_with fail
      refine (HA.out _).mono ?_
      rintro e w2 ⟨rfl, b2⟩
      go_wp2_with fail
      refine (HB.out _).mono ?_
      rintro e w3 ⟨rfl, b3⟩
      have b2 := b2.trans (b3.mono b2.size)
      clear b3
      go_wp2_with fail
      go_ret
      exact ⟨by simp, b2⟩
  · go_enter Try.func40, Try.ntmps40
    go_wp2_with fail
    go_ret
    exact ⟨rfl, Below.refl _ _⟩

end Go.Proofs.Qxb6001154a
