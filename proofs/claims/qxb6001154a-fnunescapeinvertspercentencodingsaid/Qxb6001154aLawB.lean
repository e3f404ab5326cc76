/-
  FnUnescapeInvertsPercentEncoding.
-/
import Derived.Test.Qxb6001154aRows
import Derived.Test.Qxb6001154aEnc
import Derived.Test.Qxb6001154aFacts
import Derived.ProofKit
import Derived.OpenShut
import Derived.ShutString
import Derived.Carry
namespace Go.Proofs.Qxb6001154a.fnUnescapeInvertsPercentEncoding
open Go.ChangeShapes Go.WideShapes Go.ChangeAt Go.RowKit
open Go.ChangeMaps (open_string shut_string)
set_option linter.unusedVariables false

theorem own : ownKnob Try.prog.godebug = none := by kernel_rfl

set_option maxRecDepth 100000 in
set_option maxHeartbeats 1000000 in
theorem bytes11 (s : ByteArray) (u k : Bool) (w : World) (hs : s.size ≤ maxLen) :
    Calls Try.prog 11 #[.string s, .bool u, .bool k] w fun e w' => e = .returned (.bool (decide (s.size ≤ 1048576))) ∧ w' = w := by
  unfold maxLen at hs
  by_cases h : s.size ≤ 1048576
  · rw [decide_eq_true h]
    go_enter Try.func11, Try.ntmps11
    go_wp2
    go_ret
    exact ⟨rfl, rfl⟩
  · rw [decide_eq_false h]
    go_enter Try.func11, Try.ntmps11
    go_wp2
    go_ret
    exact ⟨rfl, rfl⟩

theorem back_false (u : Bool) (s : ByteArray) : us false (en u s) = s := by
  show (⟨(Pl.un false (en u s).data.toList).toArray⟩ : ByteArray) = s
  rw [en_data, Pl.un_enc_false, Lib.mk_data]
theorem back_true (u : Bool) (s : ByteArray) : us true (en u s) = sle u s := by
  show (⟨(Pl.un true (en u s).data.toList).toArray⟩ : ByteArray) = ⟨(Pl.sl u s.data.toList).toArray⟩
  rw [en_data, Pl.un_enc_true]

set_option maxRecDepth 100000 in
set_option maxHeartbeats 4000000 in
theorem walk (a0 : ByteArray) (a1 a2 : Bool) (w0 : a0.size ≤ maxLen) (w : World) :
    Calls Try.prog 3 #[.string a0, .bool a1, .bool a2] w fun e w' => e = .returned (.bool true) ∧ Below w.heap.size w w' := by
  have hb6 := fun w => bytes11 a0 a1 a2 w w0
  by_cases h : a0.size ≤ 1048576
  · rw [decide_eq_true h] at hb6
    have HB : Aside (∀ w, Calls Try.prog 11 #[.string a0, .bool a1, .bool a2] w fun e w' => e = .returned (.bool true) ∧ w' = w) := hb6
    clear hb6
    by_cases h2 : a0.size ≤ 262144
    · have HE : Aside (∀ w, Calls Try.prog 12 #[.string a0, .bool a1] w fun e w' => e = .returned (.string (en a1 a0)) ∧ Below w.heap.size w w') := fun w => enc_any a0 a1 (by omega) w
      have hz : (en a1 a0).size ≤ 1073741824 := by
        have e1 := Lib.size_eq a0
        rw [Lib.size_eq, en_data, Pl.enc_length]
        omega
      have HU : Aside (∀ w, Calls Try.prog 13 #[.string (en a1 a0), .bool a2] w fun e w' => e = .returned (.string (us a2 (en a1 a0))) ∧ Below w.heap.size w w') := fun w => zzun_any (en a1 a0) a2 hz (Pl.wf_enc _ _) w
      cases a2
      · rw [back_false] at HU
        generalize en a1 a0 = e0 at *
        go_enter Try.func3, Try.ntmps3
        go_wp2_with fail
        refine (HB.out _).mono ?_
        rintro e w1 ⟨rfl, rfl⟩
        go_wp2_with fail
        refine (HE.out _).mono ?_
        rintro e w2 ⟨rfl, b2⟩
        go_wp2_with fail
        refine (HU.out _).mono ?_
        rintro e w3 ⟨rfl, b3⟩
        have b2 := b2.trans (b3.mono b2.size)
        clear b3
        go_wp2_with fail
        go_ret
        exact ⟨by simp, b2⟩
      · have HS : Aside (∀ w, Calls Try.prog 14 #[.string a0, .bool a1] w fun e w' => e = .returned (.string (sle a1 a0)) ∧ Below w.heap.size w w') := fun w => slash_any a0 a1 (by omega) w
        rw [back_true] at HU
        generalize en a1 a0 = e0 at *
        generalize sle a1 a0 = e1 at *
        go_enter Try.func3, Try.ntmps3
        go_wp2_with fail
        refine (HB.out _).mono ?_
        rintro e w1 ⟨rfl, rfl⟩
        go_wp2_with fail
        refine (HE.out _).mono ?_
        rintro e w2 ⟨rfl, b2⟩
        go_wp2_with fail
        refine (HU.out _).mono ?_
        rintro e w3 ⟨rfl, b3⟩
        have b2 := b2.trans (b3.mono b2.size)
        clear b3
        go_wp2_with fail
        refine (HS.out _).mono ?_
        rintro e w3 ⟨rfl, b3⟩
        have b2 := b2.trans (b3.mono b2.size)
        clear b3
        go_wp2_with fail
        go_ret
        exact ⟨by simp, b2⟩
    · go_enter Try.func3, Try.ntmps3
      go_wp2_with fail
      refine (HB.out _).mono ?_
      rintro e w1 ⟨rfl, rfl⟩
      go_wp2_with fail
      go_ret
      exact ⟨rfl, Below.refl _ _⟩
  · rw [decide_eq_false h] at hb6
    have HB : Aside (∀ w, Calls Try.prog 11 #[.string a0, .bool a1, .bool a2] w fun e w' => e = .returned (.bool false) ∧ w' = w) := hb6
    clear hb6
    go_enter Try.func3, Try.ntmps3
    go_wp2_with fail
    refine (HB.out _).mono ?_
    rintro e w1 ⟨rfl, rfl⟩
    go_wp2_with fail
    go_ret
    exact ⟨rfl, Below.refl _ _⟩

set_option maxRecDepth 100000 in
theorem lifted (os : Os) (started : os.Started) (H : Type) (enc : TypeId × Value → H) :
    ReturnsInHanded {} Try.checked os 3 .any (Rows.fnUnescapeInvertsPercentEncodingSpec.pre6 enc Try.prog Try.f3 Rows.fnUnescapeInvertsPercentEncodingRow.domain false) (Rows.fnUnescapeInvertsPercentEncodingSpec.post enc Try.prog Try.f3 false true false false) := by
  refine returnsInHanded_of_change (C := Try.checked) own started (by kernel_rfl) Try.func3
    (ChangeSpec.witness6 (enc := enc) (C := Try.checked) false ⟨#[], #[.string ByteArray.empty, .bool false, .bool false], []⟩ 8 (by kernel_rfl) (by kernel_rfl) (by kernel_rfl) (by kernel_rfl)) ?_
  intro W base args ds gs before hval0 hW hcnd _
  have hval : ∀ (j : Nat) t v, Try.f3.params[j]? = some t → args[j]? = some v → Value.okWide Try.prog W .any base t v := hval0
  have hW' := hW
  obtain ⟨p, q, hA0, hV, rfl, hfz, hnd⟩ := hW
  have hA : DataW.TrodAll enc Try.prog W 0 (fun _ => true) true Try.f3.params.toList args.toList ds p := hA0
  rw [Try.params3] at hA hval
  obtain ⟨v0, vs0, d0, ds0, p0, q0, hargs, rfl, rfl, h0, r0⟩ := trodAll_cons hA
  obtain ⟨v1, vs1, d1, ds1, p1, q1, rfl, rfl, rfl, h1, r1⟩ := trodAll_cons r0
  obtain ⟨v2, vs2, d2, ds2, p2, q2, rfl, rfl, rfl, h2, r2⟩ := trodAll_cons r1
  obtain ⟨rfl, rfl, rfl⟩ := trodAll_nil r2
  obtain rfl : args = #[v0, v1, v2] := by cases args; simp_all
  obtain ⟨rfl, rfl⟩ := trodVars_none hV
  obtain ⟨a0, rfl, rfl, rfl, w0⟩ := open_string Try.underlying9 (hval 0 9 v0 rfl rfl) h0
  obtain ⟨a1, rfl, rfl, rfl⟩ := open_bool Try.underlying4 (hval 1 4 v1 rfl rfl) h1
  obtain ⟨a2, rfl, rfl, rfl⟩ := open_bool Try.underlying4 (hval 2 4 v2 rfl rfl) h2
  clear hA0 hval0
  simp only [List.append_nil] at hW'
  refine (walk a0 a1 a2 w0 W).mono fun e W' ⟨he, bel⟩ => ?_
  subst he
  exact ⟨_, rfl, _, _, _, [], [], [], hW', trodAll_mk1 (shut_bool Try.underlying4 _), (trodAll_cons_mk (shut_string Try.underlying9 w0) (trodAll_cons_mk (shut_bool Try.underlying4 _) (trodAll_cons_mk (shut_bool Try.underlying4 _) trodAll_mk0))), rfl, bel.frame _, fun h => by cases h⟩

/-! ### the closed facts of the row, one by one -/
theorem k1 : (Rows.fnUnescapeInvertsPercentEncodingRow.wf (OpenSpec.ofChange Rows.fnUnescapeInvertsPercentEncodingSpec)) = true := by kernel_rfl
theorem k2 : (laidOutB Try.prog) = true := by kernel_rfl
theorem k3 : (mapsRowed Try.prog) = true := by kernel_rfl
theorem k4 : (Try.f3.params.all (Try.prog.readableRec ·)) = true := by kernel_rfl
theorem k5 : (namedTie Try.prog Rows.fnUnescapeInvertsPercentEncodingRow.named Rows.fnUnescapeInvertsPercentEncodingSpec.vars) = true := by kernel_rfl
theorem k6 : ((Rows.fnUnescapeInvertsPercentEncodingRow.stops == [])) = true := by kernel_rfl
theorem k7 : ((Try.prog.stops == [])) = true := by kernel_rfl
theorem k8 : ((Rows.fnUnescapeInvertsPercentEncodingRow.knobs == [])) = true := by kernel_rfl
theorem k9 : ((Try.prog.stopKnobs == [])) = true := by kernel_rfl
theorem k10 : ((Rows.fnUnescapeInvertsPercentEncodingRow.inPlace == Try.prog.inPlace 3)) = true := by kernel_rfl
theorem k11 : ((Rows.fnUnescapeInvertsPercentEncodingRow.unfollowed == Try.prog.unfollowed 3)) = true := by kernel_rfl
theorem k12 : ((Rows.fnUnescapeInvertsPercentEncodingRow.recurses == Try.prog.recurses 3)) = true := by kernel_rfl
theorem k13 : ((Rows.fnUnescapeInvertsPercentEncodingRow.named == Try.prog.varsNamed 3)) = true := by kernel_rfl
theorem k14 : ((Rows.fnUnescapeInvertsPercentEncodingRow.maps == (Try.f3.params.toList ++ Rows.fnUnescapeInvertsPercentEncodingSpec.plain.varTypes Try.prog).any (Try.prog.mapsRec ·))) = true := by kernel_rfl
theorem k15 : ((Rows.fnUnescapeInvertsPercentEncodingRow.ifaces == (Try.f3.params.toList ++ Rows.fnUnescapeInvertsPercentEncodingSpec.plain.varTypes Try.prog).any (Try.prog.ifacesRec ·))) = true := by kernel_rfl
theorem k16 : ((Rows.fnUnescapeInvertsPercentEncodingRow.mapsOut == Try.prog.mapsAmong Try.f3.resultTypes.toList)) = true := by kernel_rfl
theorem k17 : ((Rows.fnUnescapeInvertsPercentEncodingRow.loops == (Try.f3.params.toList ++ Rows.fnUnescapeInvertsPercentEncodingSpec.plain.varTypes Try.prog).any (Try.prog.loopsFrom ·))) = true := by kernel_rfl
theorem k18 : ((Rows.fnUnescapeInvertsPercentEncodingRow.wideKeys == (Try.f3.params.toList ++ Rows.fnUnescapeInvertsPercentEncodingSpec.plain.varTypes Try.prog ++ Try.f3.resultTypes.toList).any (Try.prog.wideKeysFrom ·))) = true := by kernel_rfl
theorem k19 : (Rows.fnUnescapeInvertsPercentEncodingSpec.vars.all (Try.prog.varReadable ·)) = true := by kernel_rfl
theorem k20 : (Try.f3.resultTypes.all (fun t => Try.prog.readableRec t && decide (t < Try.prog.types.size))) = true := by kernel_rfl
theorem k21 : ((Rows.fnUnescapeInvertsPercentEncodingRow.ifacesOut == Try.f3.resultTypes.toList.any (Try.prog.ifacesRec ·))) = true := by kernel_rfl
theorem k22 : ((Rows.fnUnescapeInvertsPercentEncodingRow.loopsOut == Try.f3.resultTypes.toList.any (Try.prog.loopsFrom ·))) = true := by kernel_rfl
theorem k23 : ((Rows.fnUnescapeInvertsPercentEncodingRow.plainKeys == Try.prog.plainKeys)) = true := by kernel_rfl
theorem k24 : (Rows.fnUnescapeInvertsPercentEncodingRow.shortTexts.isNone) = true := by kernel_rfl
theorem k25 : (Try.prog.stopsHeard) = true := by kernel_rfl
theorem k26 : (Try.prog.mayEnter) = true := mayEnter_yes
theorem k27 : ((Rows.fnUnescapeInvertsPercentEncodingRow.lifted == Try.prog.liftsFinal)) = true := (congrArg (Rows.fnUnescapeInvertsPercentEncodingRow.lifted == ·) liftsFinal_no).trans (by kernel_rfl)
theorem k28 : ((Try.prog.make == some Rows.fnUnescapeInvertsPercentEncodingRow.make)) = true := (congrArg (· == some Rows.fnUnescapeInvertsPercentEncodingRow.make) make_cut).trans (by kernel_rfl)
theorem k29 : ((Rows.fnUnescapeInvertsPercentEncodingRow.kinds == (if Rows.fnUnescapeInvertsPercentEncodingRow.domain.isEmpty then [] else Try.f3.params.toList.map fun t => match Try.prog.underlying t with | some (.int k) => some k | _ => none))) = true := by kernel_rfl
theorem k30 : ((Rows.fnUnescapeInvertsPercentEncodingRow.pinned == Rows.fnUnescapeInvertsPercentEncodingRow.pinnedBy)) = true := by kernel_rfl
theorem k31 : ((Rows.fnUnescapeInvertsPercentEncodingRow.veiled == (Try.f3.params.toList ++ Rows.fnUnescapeInvertsPercentEncodingSpec.plain.varTypes Try.prog ++ Try.f3.resultTypes.toList).any (Try.prog.veiledRec ·))) = true := by kernel_rfl
theorem k32 : (Rows.fnUnescapeInvertsPercentEncodingRow.veiledFits Try.prog Try.f3.params.toList (Try.f3.params.toList ++ Rows.fnUnescapeInvertsPercentEncodingSpec.plain.varTypes Try.prog ++ Try.f3.resultTypes.toList)) = true := by kernel_rfl
theorem closed : joinedFacts Try.prog 3 Try.f3 Rows.fnUnescapeInvertsPercentEncodingSpec Rows.fnUnescapeInvertsPercentEncodingRow = true := by
  simp only [joinedFacts, Bool.and_eq_true]
  exact ⟨⟨⟨⟨⟨⟨⟨⟨⟨⟨⟨⟨⟨⟨⟨⟨⟨⟨⟨⟨⟨⟨⟨⟨⟨⟨⟨⟨⟨⟨⟨k1, k2⟩, k3⟩, k4⟩, k5⟩, k6⟩, k7⟩, k8⟩, k9⟩, k10⟩, k11⟩, k12⟩, k13⟩, k14⟩, k15⟩, k16⟩, k17⟩, k18⟩, k19⟩, k20⟩, k21⟩, k22⟩, k23⟩, k24⟩, k25⟩, k26⟩, k27⟩, k28⟩, k29⟩, k30⟩, k31⟩, k32⟩

theorem hinst : Try.f3.isInstance Try.prog Rows.fnUnescapeInvertsPercentEncodingRow.origin Rows.fnUnescapeInvertsPercentEncodingRow.targs := of_decide_eq_true (by kernel_rfl)
theorem hwrap : Try.f3.isWrapper Try.prog Rows.fnUnescapeInvertsPercentEncodingRow.wrapper Rows.fnUnescapeInvertsPercentEncodingRow.mainSum := by
  unfold Func.isWrapper
  rw [if_neg (by decide +kernel)]
  exact ⟨rfl, rfl⟩
theorem hfn : Try.prog.funcNamed Rows.fnUnescapeInvertsPercentEncodingRow.func = some 3 := by kernel_rfl

theorem pp : Try.pinned.checked.prog = Try.prog := by kernel_rfl
set_option maxRecDepth 100000 in
theorem over : Rows.fnUnescapeInvertsPercentEncodingRow.holds Try.pinned (OpenSpec.ofChange Rows.fnUnescapeInvertsPercentEncodingSpec) :=
  OpenClaim.holds_of_wide 3 Try.f3 rfl rfl rfl rfl rfl rfl rfl ⟨rfl, rfl, rfl, rfl, rfl⟩ rfl rfl rfl rfl rfl (by rw [pp]; exact hfn) (by rw [pp]; exact Try.func3) (by rw [pp]; exact closed) (by rw [pp]; exact hinst) (by rw [pp]; exact hwrap)
    (fun os started H enc _ => lifted os started H enc)

/-- THE STATEMENT -/
theorem proved : Rows.FnUnescapeInvertsPercentEncodingSaid :=
  over
#print axioms proved
end Go.Proofs.Qxb6001154a.fnUnescapeInvertsPercentEncoding
