/-
  FnUnescapeShrinksTwoBytesPerDecodedOctet.
-/
import Derived.Test.Qxb6001154aRows
import Derived.Test.Qxb6001154aUnesc
import Derived.Test.Qxb6001154aFacts
import Derived.ProofKit
import Derived.OpenShut
import Derived.ShutString
import Derived.Carry
namespace Go.Proofs.Qxb6001154a.fnUnescapeShrinksTwoBytesPerDecodedOctet
open Go.ChangeShapes Go.WideShapes Go.ChangeAt Go.RowKit
open Go.ChangeMaps (open_string shut_string)
set_option linter.unusedVariables false

theorem own : ownKnob Try.prog.godebug = none := by kernel_rfl

set_option maxRecDepth 100000 in
set_option maxHeartbeats 1000000 in
theorem bytes18 (s : ByteArray) (w : World) (hs : s.size ≤ maxLen) :
    Calls Try.prog 18 #[.string s] w fun e w' => e = .returned (.bool (decide (s.size ≤ 1048576))) ∧ w' = w := by
  unfold maxLen at hs
  by_cases h : s.size ≤ 1048576
  · rw [decide_eq_true h]
    go_enter Try.func18, Try.ntmps18
    go_wp2
    go_ret
    exact ⟨rfl, rfl⟩
  · rw [decide_eq_false h]
    go_enter Try.func18, Try.ntmps18
    go_wp2
    go_ret
    exact ⟨rfl, rfl⟩

theorem kep_yes (y z : UInt8) (t : List UInt8) (h : y = 50 ∧ (z = 70 ∨ z = 102)) : Pl.kep (37 :: y :: z :: t) = Pl.kep t + 1 := by
  rw [Pl.kep_pct, if_pos (by simpa using h)]
theorem kep_no (y z : UInt8) (t : List UInt8) (h : ¬ (y = 50 ∧ (z = 70 ∨ z = 102))) : Pl.kep (37 :: y :: z :: t) = Pl.kep t := by
  rw [Pl.kep_pct, if_neg (by simpa using h), Nat.add_zero]

set_option maxRecDepth 100000 in
set_option maxHeartbeats 4000000 in
theorem walk (a0 : ByteArray) (w0 : a0.size ≤ maxLen) (w : World) :
    Calls Try.prog 5 #[.string a0] w fun e w' => e = .returned (.bool true) ∧ Below w.heap.size w w' := by
  have hb6 := fun w => bytes18 a0 w w0
  by_cases h : a0.size ≤ 1048576
  · rw [decide_eq_true h] at hb6
    have HB : Aside (∀ w, Calls Try.prog 18 #[.string a0] w fun e w' => e = .returned (.bool true) ∧ w' = w) := hb6
    have HF : Aside (∀ w, Calls Try.prog 16 #[.string a0] w fun e w' => e = .returned (.bool (Pl.wf a0.data.toList)) ∧ w' = w) := fun w => wf_any a0 h w
    clear hb6
    cases hw : Pl.wf a0.data.toList
    · rw [hw] at HF
      clear hw
      go_enter Try.func5, Try.ntmps5
      go_wp2_with fail
      refine (HB.out _).mono ?_
      rintro e w1 ⟨rfl, rfl⟩
      go_wp2_with fail
      refine (HF.out _).mono ?_
      rintro e w1 ⟨rfl, rfl⟩
      go_wp2_with fail
      go_ret
      exact ⟨rfl, Below.refl _ _⟩
    · rw [hw] at HF
      have hsz := Lib.size_eq a0
      have l1 := Pl.len_false _ hw
      have l2 := Pl.len_true _ hw
      have HU1 : Aside (∀ w, Calls Try.prog 13 #[.string a0, .bool false] w fun e w' => e = .returned (.string (us false a0)) ∧ Below w.heap.size w w') := fun w => zzun_any a0 false (by omega) hw w
      have HU2 : Aside (∀ w, Calls Try.prog 13 #[.string a0, .bool true] w fun e w' => e = .returned (.string (us true a0)) ∧ Below w.heap.size w w') := fun w => zzun_any a0 true (by omega) hw w
      have HN1 : Aside ((us false a0).size + 2 * Pl.pct a0.data.toList = a0.size) := by show _ = _; rw [Lib.size_eq, Lib.size_eq, us_data]; exact l1
      have HN2 : Aside ((us true a0).size + 2 * Pl.pct a0.data.toList = a0.size + 2 * Pl.kep a0.data.toList ∧ Pl.kep a0.data.toList ≤ Pl.pct a0.data.toList) := by
        show _ ∧ _
        rw [Lib.size_eq, Lib.size_eq, us_data]
        exact l2
      have HW : Aside (Pl.wf a0.data.toList = true) := hw
      clear hw hsz l1 l2
      generalize us false a0 = r1 at *
      generalize us true a0 = r2 at *
      go_enter Try.func5, Try.ntmps5
      go_wp2_with fail
      refine (HB.out _).mono ?_
      rintro e w1 ⟨rfl, rfl⟩
      go_wp2_with fail
      refine (HF.out _).mono ?_
      rintro e w2 ⟨rfl, rfl⟩
      go_wp2_with fail
      clear HB HF
      go_loopg [3, 4, 5] a0.size (fun g pv kv iv wx => ∃ j p q : Nat, a0.size - j ≤ g ∧ j ≤ a0.size ∧ p ≤ j ∧ q ≤ j ∧ iv = .int .i64 j ∧ pv = .int .i64 p ∧ kv = .int .i64 q ∧ wx = w2 ∧ Pl.wf (a0.data.toList.drop j) = true ∧ p + Pl.pct (a0.data.toList.drop j) = Pl.pct a0.data.toList ∧ q + Pl.kep (a0.data.toList.drop j) = Pl.kep a0.data.toList)
      case atStart => exact ⟨0, 0, 0, by omega, by omega, by omega, by omega, rfl, rfl, rfl, rfl, HW.out, by simp, by simp⟩
      case round =>
        clear HW
        obtain ⟨j, p, q, hg, hj, hp, hq, rfl, rfl, rfl, rfl, hw, e1, e2⟩ := hrel
        have HW : Aside (Pl.wf (a0.data.toList.drop j) = true) := hw
        have HP : Aside (p + Pl.pct (a0.data.toList.drop j) = Pl.pct a0.data.toList ∧ q + Pl.kep (a0.data.toList.drop j) = Pl.kep a0.data.toList) := ⟨e1, e2⟩
        clear hw e1 e2
        by_cases hlt : j < a0.size
        · cases hd : a0.data.toList.drop j with
          | nil => rw [drop_cons hlt] at hd; cases hd
          | cons x t =>
            have hx := at_of_drop hd hlt
            have hki : (j : Int) < (a0.size : Int) := by omega
            have HD : Aside (a0.data.toList.drop j = x :: t) := hd
            by_cases h37 : x = 37
            · subst h37
              have hw := HW.out
              rw [HD.out] at hw
              obtain ⟨y, z, t', rfl, e1, e2, hw'⟩ := Pl.wf_pct_inv hw
              have HW' : Aside (Pl.wf t' = true) := hw'
              have hsz := drop_size hd (by simp)
              simp only [List.length_cons] at hsz
              have h2 : ((j : Int) + 2) < (a0.size : Int) := by omega
              have d1 := drop_of_drop HD.out
              have d2 := drop_of_drop d1
              have d3 := drop_of_drop d2
              have hy := at_of_drop d1 (by omega)
              have hz : a0[j + 2]'(by omega) = z := at_of_drop (k := j + 2) d2 (by omega)
              have HD3 : Aside (a0.data.toList.drop (j + 3) = t') := d3
              clear d1 d2 d3 hd hw hw'
              by_cases y50 : y = 50
              · have b1 : ((y.toNat : Int) == 50) = true := isb 50 y50
                have Y50 : Aside (y = 50) := y50
                clear y50
                by_cases z70 : z = 70
                · have b2 : ((z.toNat : Int) == 70) = true := isb 70 z70
                  have Z70 : Aside (z = 70) := z70
                  clear z70
                  go_wp2_with fail
                  go_roundg (a0.size - (j + 3))
                  case measure => omega
                  case rel => exact ⟨j + 3, p + 1, q + 1, by omega, by omega, by omega, by omega, by go_num, by go_num, by go_num, rfl, by rw [HD3.out]; exact HW'.out, by have := HP.out.1; rw [HD.out, Pl.pct_pct] at this; rw [HD3.out]; omega, by have := HP.out.2; rw [HD.out, kep_yes y z t' ⟨Y50.out, Or.inl Z70.out⟩] at this; rw [HD3.out]; omega⟩
                · have b2 : ((z.toNat : Int) == 70) = false := notb 70 z70
                  by_cases z102 : z = 102
                  · have b3 : ((z.toNat : Int) == 102) = true := isb 102 z102
                    have Z102 : Aside (z = 102) := z102
                    clear z102
                    go_wp2_with fail
                    go_roundg (a0.size - (j + 3))
                    case measure => omega
                    case rel => exact ⟨j + 3, p + 1, q + 1, by omega, by omega, by omega, by omega, by go_num, by go_num, by go_num, rfl, by rw [HD3.out]; exact HW'.out, by have := HP.out.1; rw [HD.out, Pl.pct_pct] at this; rw [HD3.out]; omega, by have := HP.out.2; rw [HD.out, kep_yes y z t' ⟨Y50.out, Or.inr Z102.out⟩] at this; rw [HD3.out]; omega⟩
                  · have b3 : ((z.toNat : Int) == 102) = false := notb 102 z102
                    go_wp2_with fail
                    go_roundg (a0.size - (j + 3))
                    case measure => omega
                    case rel => exact ⟨j + 3, p + 1, q, by omega, by omega, by omega, by omega, by go_num, by go_num, rfl, rfl, by rw [HD3.out]; exact HW'.out, by have := HP.out.1; rw [HD.out, Pl.pct_pct] at this; rw [HD3.out]; omega, by have := HP.out.2; rw [HD.out, kep_no y z t' (fun hh => hh.2.elim z70 z102)] at this; rw [HD3.out]; omega⟩
              · have b1 : ((y.toNat : Int) == 50) = false := notb 50 y50
                go_wp2_with fail
                go_roundg (a0.size - (j + 3))
                case measure => omega
                case rel => exact ⟨j + 3, p + 1, q, by omega, by omega, by omega, by omega, by go_num, by go_num, rfl, rfl, by rw [HD3.out]; exact HW'.out, by have := HP.out.1; rw [HD.out, Pl.pct_pct] at this; rw [HD3.out]; omega, by have := HP.out.2; rw [HD.out, kep_no y z t' (fun hh => y50 hh.1)] at this; rw [HD3.out]; omega⟩
            · have hn := not37 h37
              clear hd
              go_wp2_with fail
              go_roundg (a0.size - (j + 1))
              case measure => omega
              case rel => exact ⟨j + 1, p, q, by omega, by omega, by omega, by omega, by go_num, rfl, rfl, rfl, by rw [drop_of_drop HD.out, ← Pl.wf_plain h37, ← HD.out]; exact HW.out, by rw [drop_of_drop HD.out, ← Pl.pct_plain h37, ← HD.out]; exact HP.out.1, by rw [drop_of_drop HD.out, ← Pl.kep_plain h37, ← HD.out]; exact HP.out.2⟩
        · have hp1 := HP.out.1
          have hp2 := HP.out.2
          rw [drop_end hlt] at hp1 hp2
          have n1 := HN1.out
          have n2 := HN2.out
          rw [show Pl.pct [] = 0 from rfl, Nat.add_zero] at hp1
          rw [show Pl.kep [] = 0 from rfl, Nat.add_zero] at hp2
          rw [← hp1] at n1 n2
          rw [← hp2] at n2
          obtain ⟨n2, n3⟩ := n2
          clear hp1 hp2 HP HN1 HN2 HW
          have g1 : ((r1.size : Int) != (a0.size : Int) - 2 * (p : Int)) = false := by
            rw [bne_eq_false_iff_eq]
            omega
          have g2 : ((r2.size : Int) == (a0.size : Int) - 2 * ((p : Int) - (q : Int))) = true := by
            rw [beq_iff_eq]
            omega
          have n1' : 2 * p ≤ a0.size := by omega
          clear n1 n2
          go_wp2_with fail
          refine (HU1.out _).mono ?_
          rintro e w3 ⟨rfl, hb1⟩
          go_wp2_with fail
          refine (HU2.out _).mono ?_
          rintro e w4 ⟨rfl, hb2⟩
          have hb := hb1.trans (hb2.mono hb1.size)
          clear hb1 hb2
          go_wp2_with fail
          go_ret
          exact ⟨rfl, hb⟩
  · rw [decide_eq_false h] at hb6
    have HB : Aside (∀ w, Calls Try.prog 18 #[.string a0] w fun e w' => e = .returned (.bool false) ∧ w' = w) := hb6
    clear hb6
    go_enter Try.func5, Try.ntmps5
    go_wp2_with fail
    refine (HB.out _).mono ?_
    rintro e w1 ⟨rfl, rfl⟩
    go_wp2_with fail
    go_ret
    exact ⟨rfl, Below.refl _ _⟩

set_option maxRecDepth 100000 in
theorem lifted (os : Os) (started : os.Started) (H : Type) (enc : TypeId × Value → H) :
    ReturnsInHanded {} Try.checked os 5 .any (Rows.fnUnescapeShrinksTwoBytesPerDecodedOctetSpec.pre6 enc Try.prog Try.f5 Rows.fnUnescapeShrinksTwoBytesPerDecodedOctetRow.domain false) (Rows.fnUnescapeShrinksTwoBytesPerDecodedOctetSpec.post enc Try.prog Try.f5 false true false false) := by
  refine returnsInHanded_of_change (C := Try.checked) own started (by kernel_rfl) Try.func5
    (ChangeSpec.witness6 (enc := enc) (C := Try.checked) false ⟨#[], #[.string ByteArray.empty], []⟩ 8 (by kernel_rfl) (by kernel_rfl) (by kernel_rfl) (by kernel_rfl)) ?_
  intro W base args ds gs before hval0 hW hcnd _
  have hval : ∀ (j : Nat) t v, Try.f5.params[j]? = some t → args[j]? = some v → Value.okWide Try.prog W .any base t v := hval0
  have hW' := hW
  obtain ⟨p, q, hA0, hV, rfl, hfz, hnd⟩ := hW
  have hA : DataW.TrodAll enc Try.prog W 0 (fun _ => true) true Try.f5.params.toList args.toList ds p := hA0
  rw [Try.params5] at hA hval
  obtain ⟨v0, vs0, d0, ds0, p0, q0, hargs, rfl, rfl, h0, r0⟩ := trodAll_cons hA
  obtain ⟨rfl, rfl, rfl⟩ := trodAll_nil r0
  obtain rfl : args = #[v0] := by cases args; simp_all
  obtain ⟨rfl, rfl⟩ := trodVars_none hV
  obtain ⟨a0, rfl, rfl, rfl, w0⟩ := open_string Try.underlying9 (hval 0 9 v0 rfl rfl) h0
  clear hA0 hval0
  simp only [List.append_nil] at hW'
  refine (walk a0 w0 W).mono fun e W' ⟨he, bel⟩ => ?_
  subst he
  exact ⟨_, rfl, _, _, _, [], [], [], hW', trodAll_mk1 (shut_bool Try.underlying4 _), (trodAll_cons_mk (shut_string Try.underlying9 w0) trodAll_mk0), rfl, bel.frame _, fun h => by cases h⟩

/-! ### the closed facts of the row, one by one -/
theorem k1 : (Rows.fnUnescapeShrinksTwoBytesPerDecodedOctetRow.wf (OpenSpec.ofChange Rows.fnUnescapeShrinksTwoBytesPerDecodedOctetSpec)) = true := by kernel_rfl
theorem k2 : (laidOutB Try.prog) = true := by kernel_rfl
theorem k3 : (mapsRowed Try.prog) = true := by kernel_rfl
theorem k4 : (Try.f5.params.all (Try.prog.readableRec ·)) = true := by kernel_rfl
theorem k5 : (namedTie Try.prog Rows.fnUnescapeShrinksTwoBytesPerDecodedOctetRow.named Rows.fnUnescapeShrinksTwoBytesPerDecodedOctetSpec.vars) = true := by kernel_rfl
theorem k6 : ((Rows.fnUnescapeShrinksTwoBytesPerDecodedOctetRow.stops == [])) = true := by kernel_rfl
theorem k7 : ((Try.prog.stops == [])) = true := by kernel_rfl
theorem k8 : ((Rows.fnUnescapeShrinksTwoBytesPerDecodedOctetRow.knobs == [])) = true := by kernel_rfl
theorem k9 : ((Try.prog.stopKnobs == [])) = true := by kernel_rfl
theorem k10 : ((Rows.fnUnescapeShrinksTwoBytesPerDecodedOctetRow.inPlace == Try.prog.inPlace 5)) = true := by kernel_rfl
theorem k11 : ((Rows.fnUnescapeShrinksTwoBytesPerDecodedOctetRow.unfollowed == Try.prog.unfollowed 5)) = true := by kernel_rfl
theorem k12 : ((Rows.fnUnescapeShrinksTwoBytesPerDecodedOctetRow.recurses == Try.prog.recurses 5)) = true := by kernel_rfl
theorem k13 : ((Rows.fnUnescapeShrinksTwoBytesPerDecodedOctetRow.named == Try.prog.varsNamed 5)) = true := by kernel_rfl
theorem k14 : ((Rows.fnUnescapeShrinksTwoBytesPerDecodedOctetRow.maps == (Try.f5.params.toList ++ Rows.fnUnescapeShrinksTwoBytesPerDecodedOctetSpec.plain.varTypes Try.prog).any (Try.prog.mapsRec ·))) = true := by kernel_rfl
theorem k15 : ((Rows.fnUnescapeShrinksTwoBytesPerDecodedOctetRow.ifaces == (Try.f5.params.toList ++ Rows.fnUnescapeShrinksTwoBytesPerDecodedOctetSpec.plain.varTypes Try.prog).any (Try.prog.ifacesRec ·))) = true := by kernel_rfl
theorem k16 : ((Rows.fnUnescapeShrinksTwoBytesPerDecodedOctetRow.mapsOut == Try.prog.mapsAmong Try.f5.resultTypes.toList)) = true := by kernel_rfl
theorem k17 : ((Rows.fnUnescapeShrinksTwoBytesPerDecodedOctetRow.loops == (Try.f5.params.toList ++ Rows.fnUnescapeShrinksTwoBytesPerDecodedOctetSpec.plain.varTypes Try.prog).any (Try.prog.loopsFrom ·))) = true := by kernel_rfl
theorem k18 : ((Rows.fnUnescapeShrinksTwoBytesPerDecodedOctetRow.wideKeys == (Try.f5.params.toList ++ Rows.fnUnescapeShrinksTwoBytesPerDecodedOctetSpec.plain.varTypes Try.prog ++ Try.f5.resultTypes.toList).any (Try.prog.wideKeysFrom ·))) = true := by kernel_rfl
theorem k19 : (Rows.fnUnescapeShrinksTwoBytesPerDecodedOctetSpec.vars.all (Try.prog.varReadable ·)) = true := by kernel_rfl
theorem k20 : (Try.f5.resultTypes.all (fun t => Try.prog.readableRec t && decide (t < Try.prog.types.size))) = true := by kernel_rfl
theorem k21 : ((Rows.fnUnescapeShrinksTwoBytesPerDecodedOctetRow.ifacesOut == Try.f5.resultTypes.toList.any (Try.prog.ifacesRec ·))) = true := by kernel_rfl
theorem k22 : ((Rows.fnUnescapeShrinksTwoBytesPerDecodedOctetRow.loopsOut == Try.f5.resultTypes.toList.any (Try.prog.loopsFrom ·))) = true := by kernel_rfl
theorem k23 : ((Rows.fnUnescapeShrinksTwoBytesPerDecodedOctetRow.plainKeys == Try.prog.plainKeys)) = true := by kernel_rfl
theorem k24 : (Rows.fnUnescapeShrinksTwoBytesPerDecodedOctetRow.shortTexts.isNone) = true := by kernel_rfl
theorem k25 : (Try.prog.stopsHeard) = true := by kernel_rfl
theorem k26 : (Try.prog.mayEnter) = true := mayEnter_yes
theorem k27 : ((Rows.fnUnescapeShrinksTwoBytesPerDecodedOctetRow.lifted == Try.prog.liftsFinal)) = true := (congrArg (Rows.fnUnescapeShrinksTwoBytesPerDecodedOctetRow.lifted == ·) liftsFinal_no).trans (by kernel_rfl)
theorem k28 : ((Try.prog.make == some Rows.fnUnescapeShrinksTwoBytesPerDecodedOctetRow.make)) = true := (congrArg (· == some Rows.fnUnescapeShrinksTwoBytesPerDecodedOctetRow.make) make_cut).trans (by kernel_rfl)
theorem k29 : ((Rows.fnUnescapeShrinksTwoBytesPerDecodedOctetRow.kinds == (if Rows.fnUnescapeShrinksTwoBytesPerDecodedOctetRow.domain.isEmpty then [] else Try.f5.params.toList.map fun t => match Try.prog.underlying t with | some (.int k) => some k | _ => none))) = true := by kernel_rfl
theorem k30 : ((Rows.fnUnescapeShrinksTwoBytesPerDecodedOctetRow.pinned == Rows.fnUnescapeShrinksTwoBytesPerDecodedOctetRow.pinnedBy)) = true := by kernel_rfl
theorem k31 : ((Rows.fnUnescapeShrinksTwoBytesPerDecodedOctetRow.veiled == (Try.f5.params.toList ++ Rows.fnUnescapeShrinksTwoBytesPerDecodedOctetSpec.plain.varTypes Try.prog ++ Try.f5.resultTypes.toList).any (Try.prog.veiledRec ·))) = true := by kernel_rfl
theorem k32 : (Rows.fnUnescapeShrinksTwoBytesPerDecodedOctetRow.veiledFits Try.prog Try.f5.params.toList (Try.f5.params.toList ++ Rows.fnUnescapeShrinksTwoBytesPerDecodedOctetSpec.plain.varTypes Try.prog ++ Try.f5.resultTypes.toList)) = true := by kernel_rfl
theorem closed : joinedFacts Try.prog 5 Try.f5 Rows.fnUnescapeShrinksTwoBytesPerDecodedOctetSpec Rows.fnUnescapeShrinksTwoBytesPerDecodedOctetRow = true := by
  simp only [joinedFacts, Bool.and_eq_true]
  exact ⟨⟨⟨⟨⟨⟨⟨⟨⟨⟨⟨⟨⟨⟨⟨⟨⟨⟨⟨⟨⟨⟨⟨⟨⟨⟨⟨⟨⟨⟨⟨k1, k2⟩, k3⟩, k4⟩, k5⟩, k6⟩, k7⟩, k8⟩, k9⟩, k10⟩, k11⟩, k12⟩, k13⟩, k14⟩, k15⟩, k16⟩, k17⟩, k18⟩, k19⟩, k20⟩, k21⟩, k22⟩, k23⟩, k24⟩, k25⟩, k26⟩, k27⟩, k28⟩, k29⟩, k30⟩, k31⟩, k32⟩

theorem hinst : Try.f5.isInstance Try.prog Rows.fnUnescapeShrinksTwoBytesPerDecodedOctetRow.origin Rows.fnUnescapeShrinksTwoBytesPerDecodedOctetRow.targs := of_decide_eq_true (by kernel_rfl)
theorem hwrap : Try.f5.isWrapper Try.prog Rows.fnUnescapeShrinksTwoBytesPerDecodedOctetRow.wrapper Rows.fnUnescapeShrinksTwoBytesPerDecodedOctetRow.mainSum := by
  unfold Func.isWrapper
  rw [if_neg (by decide +kernel)]
  exact ⟨rfl, rfl⟩
theorem hfn : Try.prog.funcNamed Rows.fnUnescapeShrinksTwoBytesPerDecodedOctetRow.func = some 5 := by kernel_rfl

theorem pp : Try.pinned.checked.prog = Try.prog := by kernel_rfl
set_option maxRecDepth 100000 in
theorem over : Rows.fnUnescapeShrinksTwoBytesPerDecodedOctetRow.holds Try.pinned (OpenSpec.ofChange Rows.fnUnescapeShrinksTwoBytesPerDecodedOctetSpec) :=
  OpenClaim.holds_of_wide 5 Try.f5 rfl rfl rfl rfl rfl rfl rfl ⟨rfl, rfl, rfl, rfl, rfl⟩ rfl rfl rfl rfl rfl (by rw [pp]; exact hfn) (by rw [pp]; exact Try.func5) (by rw [pp]; exact closed) (by rw [pp]; exact hinst) (by rw [pp]; exact hwrap)
    (fun os started H enc _ => lifted os started H enc)

/-- THE STATEMENT -/
theorem proved : Rows.FnUnescapeShrinksTwoBytesPerDecodedOctetSaid :=
  over
#print axioms proved
end Go.Proofs.Qxb6001154a.fnUnescapeShrinksTwoBytesPerDecodedOctet
