/-
  FnUnescapeSplitsOverConcatenation.
-/
import Derived.Test.Qxb6001154aRows
import Derived.Test.Qxb6001154aUnesc
import Derived.Test.Qxb6001154aFacts
import Derived.ProofKit
import Derived.OpenShut
import Derived.ShutString
import Derived.Carry
namespace Go.Proofs.Qxb6001154a.fnUnescapeSplitsOverConcatenation
open Go.ChangeShapes Go.WideShapes Go.ChangeAt Go.RowKit
open Go.ChangeMaps (open_string shut_string)
set_option linter.unusedVariables false

theorem own : ownKnob Try.prog.godebug = none := by kernel_rfl

set_option maxRecDepth 100000 in
set_option maxHeartbeats 1000000 in
theorem bytes15 (c s : ByteArray) (k : Bool) (w : World) (hc : c.size ≤ maxLen) (hs : s.size ≤ maxLen) :
    Calls Try.prog 15 #[.string c, .string s, .bool k] w fun e w' => e = .returned (.bool (decide (c.size + s.size ≤ 1048576))) ∧ w' = w := by
  unfold maxLen at hs hc
  by_cases h : c.size + s.size ≤ 1048576
  · rw [decide_eq_true h]
    go_enter Try.func15, Try.ntmps15
    go_wp2
    go_ret
    exact ⟨rfl, rfl⟩
  · rw [decide_eq_false h]
    by_cases h1 : c.size ≤ 1048576
    · by_cases h2 : s.size ≤ 1048576
      · go_enter Try.func15, Try.ntmps15
        go_wp2
        go_ret
        exact ⟨rfl, rfl⟩
      · go_enter Try.func15, Try.ntmps15
        go_wp2
        go_ret
        exact ⟨rfl, rfl⟩
    · go_enter Try.func15, Try.ntmps15
      go_wp2
      go_ret
      exact ⟨rfl, rfl⟩

theorem us_append (k : Bool) (a b : ByteArray) (h : Pl.wf a.data.toList = true) : us k (a ++ b) = us k a ++ us k b := by
  have e : (us k (a ++ b)).data.toList = (us k a ++ us k b).data.toList := by
    rw [us_data, ByteArray.data_append, ByteArray.data_append, Array.toList_append, Array.toList_append, us_data, us_data, Pl.un_append k _ _ h]
  rw [← Lib.mk_data (us k (a ++ b)), ← Lib.mk_data (us k a ++ us k b), e]

theorem us_nopct (k : Bool) (a : ByteArray) (h : a.data.toList.contains 37 = false) : us k a = a := by
  show (⟨(Pl.un k a.data.toList).toArray⟩ : ByteArray) = a
  rw [Pl.un_nopct k _ (fun b hb e => by rw [e] at hb; simp [hb] at h), Lib.mk_data]

set_option maxRecDepth 100000 in
set_option maxHeartbeats 4000000 in
theorem walk (a0 : ByteArray) (a1 : ByteArray) (a2 : Bool) (w0 : a0.size ≤ maxLen) (w1 : a1.size ≤ maxLen) (w : World) :
    Calls Try.prog 4 #[.string a0, .string a1, .bool a2] w fun e w' => e = .returned (.bool true) ∧ Below w.heap.size w w' := by
  have hb6 := fun w => bytes15 a0 a1 a2 w w0 w1
  by_cases h : a0.size + a1.size ≤ 1048576
  · rw [decide_eq_true h] at hb6
    have HB : Aside (∀ w, Calls Try.prog 15 #[.string a0, .string a1, .bool a2] w fun e w' => e = .returned (.bool true) ∧ w' = w) := hb6
    clear hb6
    by_cases hc1 : decide ((524288 : Int) < (a0.size : Int)) = true
    · go_enter Try.func4, Try.ntmps4
      go_wp2_with fail
      refine (HB.out _).mono ?_
      rintro e w1 ⟨rfl, rfl⟩
      go_wp2_with fail
      go_ret
      exact ⟨rfl, Below.refl _ _⟩
    have hc1 : decide ((524288 : Int) < (a0.size : Int)) = false := by simpa using hc1
    by_cases hc2 : decide ((524288 : Int) < (a1.size : Int)) = true
    · go_enter Try.func4, Try.ntmps4
      go_wp2_with fail
      refine (HB.out _).mono ?_
      rintro e w1 ⟨rfl, rfl⟩
      go_wp2_with fail
      go_ret
      exact ⟨rfl, Below.refl _ _⟩
    have hc2 : decide ((524288 : Int) < (a1.size : Int)) = false := by simpa using hc2
    have HF0 : Aside (∀ w, Calls Try.prog 16 #[.string a0] w fun e w' => e = .returned (.bool (Pl.wf a0.data.toList)) ∧ w' = w) := fun w => wf_any a0 (by omega) w
    have HF1 : Aside (∀ w, Calls Try.prog 16 #[.string a1] w fun e w' => e = .returned (.bool (Pl.wf a1.data.toList)) ∧ w' = w) := fun w => wf_any a1 (by omega) w
    cases hw0 : Pl.wf a0.data.toList
    · rw [hw0] at HF0
      clear hw0
      go_enter Try.func4, Try.ntmps4
      go_wp2_with fail
      refine (HB.out _).mono ?_
      rintro e w1 ⟨rfl, rfl⟩
      go_wp2_with fail
      refine (HF0.out _).mono ?_
      rintro e w1 ⟨rfl, rfl⟩
      go_wp2_with fail
      go_ret
      exact ⟨rfl, Below.refl _ _⟩
    cases hw1 : Pl.wf a1.data.toList
    · rw [hw0] at HF0
      rw [hw1] at HF1
      clear hw0 hw1
      go_enter Try.func4, Try.ntmps4
      go_wp2_with fail
      refine (HB.out _).mono ?_
      rintro e w1 ⟨rfl, rfl⟩
      go_wp2_with fail
      refine (HF0.out _).mono ?_
      rintro e w1 ⟨rfl, rfl⟩
      go_wp2_with fail
      refine (HF1.out _).mono ?_
      rintro e w1 ⟨rfl, rfl⟩
      go_wp2_with fail
      go_ret
      exact ⟨rfl, Below.refl _ _⟩
    have HU0 : Aside (∀ w, Calls Try.prog 13 #[.string a0, .bool a2] w fun e w' => e = .returned (.string (us a2 a0)) ∧ Below w.heap.size w w') := fun w => zzun_any a0 a2 (by omega) hw0 w
    have HU1 : Aside (∀ w, Calls Try.prog 13 #[.string a1, .bool a2] w fun e w' => e = .returned (.string (us a2 a1)) ∧ Below w.heap.size w w') := fun w => zzun_any a1 a2 (by omega) hw1 w
    have HU2 : Aside (∀ w, Calls Try.prog 13 #[.string (a0 ++ a1), .bool a2] w fun e w' => e = .returned (.string (us a2 (a0 ++ a1))) ∧ Below w.heap.size w w') := fun w => zzun_any (a0 ++ a1) a2 (by rw [ByteArray.size_append]; omega) (by rw [ByteArray.data_append, Array.toList_append]; exact Pl.wf_append _ _ hw0 hw1) w
    have HE : Aside (us a2 (a0 ++ a1) = us a2 a0 ++ us a2 a1) := us_append a2 a0 a1 hw0
    have HP : Aside (∀ w, Calls Try.prog 17 #[.string a0] w fun e w' => e = .returned (.bool (a0.data.toList.contains 37)) ∧ w' = w) := fun w => hasPct_any a0 (by omega) w
    have HN : Aside (a0.data.toList.contains 37 = false → us a2 a0 = a0) := us_nopct a2 a0
    have z0 : (us a2 a0).size ≤ a0.size := by rw [Lib.size_eq, Lib.size_eq, us_data]; exact Pl.un_le a2 _ hw0
    have z1 : (us a2 a1).size ≤ a1.size := by rw [Lib.size_eq, Lib.size_eq, us_data]; exact Pl.un_le a2 _ hw1
    rw [hw0] at HF0
    rw [hw1] at HF1
    rw [HE.out] at HU2
    clear hw0 hw1 HE
    generalize us a2 a0 = u0 at *
    generalize us a2 a1 = u1 at *
    have hq : ((u0 ++ u1).toList == (u0 ++ u1).toList) = true := by simp
    cases hc : a0.data.toList.contains 37
    · have hn := HN.out hc
      have hq2 : (u0.toList == a0.toList) = true := by rw [hn]; simp
      rw [hc] at HP
      clear hn hc HN
      go_enter Try.func4, Try.ntmps4
      go_wp2_with fail
      refine (HB.out _).mono ?_
      rintro e w1 ⟨rfl, rfl⟩
      go_wp2_with fail
      refine (HF0.out _).mono ?_
      rintro e w1 ⟨rfl, rfl⟩
      go_wp2_with fail
      refine (HF1.out _).mono ?_
      rintro e w1 ⟨rfl, rfl⟩
      go_wp2_with fail
      refine (HU2.out _).mono ?_
      rintro e w2 ⟨rfl, b2⟩
      go_wp2_with fail
      refine (HU0.out _).mono ?_
      rintro e w3 ⟨rfl, b3⟩
      have b2 := b2.trans (b3.mono b2.size)
      clear b3
      go_wp2_with fail
      refine (HU1.out _).mono ?_
      rintro e w3 ⟨rfl, b3⟩
      have b2 := b2.trans (b3.mono b2.size)
      clear b3
      go_wp2_with fail
      refine (HP.out _).mono ?_
      rintro e w4 ⟨rfl, rfl⟩
      go_wp2_with fail
      go_ret
      exact ⟨rfl, b2⟩
    · rw [hc] at HP
      clear hc HN
      go_enter Try.func4, Try.ntmps4
      go_wp2_with fail
      refine (HB.out _).mono ?_
      rintro e w1 ⟨rfl, rfl⟩
      go_wp2_with fail
      refine (HF0.out _).mono ?_
      rintro e w1 ⟨rfl, rfl⟩
      go_wp2_with fail
      refine (HF1.out _).mono ?_
      rintro e w1 ⟨rfl, rfl⟩
      go_wp2_with fail
      refine (HU2.out _).mono ?_
      rintro e w2 ⟨rfl, b2⟩
      go_wp2_with fail
      refine (HU0.out _).mono ?_
      rintro e w3 ⟨rfl, b3⟩
      have b2 := b2.trans (b3.mono b2.size)
      clear b3
      go_wp2_with fail
      refine (HU1.out _).mono ?_
      rintro e w3 ⟨rfl, b3⟩
      have b2 := b2.trans (b3.mono b2.size)
      clear b3
      go_wp2_with fail
      refine (HP.out _).mono ?_
      rintro e w4 ⟨rfl, rfl⟩
      go_wp2_with fail
      go_ret
      exact ⟨rfl, b2⟩
  · rw [decide_eq_false h] at hb6
    have HB : Aside (∀ w, Calls Try.prog 15 #[.string a0, .string a1, .bool a2] w fun e w' => e = .returned (.bool false) ∧ w' = w) := hb6
    clear hb6
    go_enter Try.func4, Try.ntmps4
    go_wp2_with fail
    refine (HB.out _).mono ?_
    rintro e w1 ⟨rfl, rfl⟩
    go_wp2_with fail
    go_ret
    exact ⟨rfl, Below.refl _ _⟩

set_option maxRecDepth 100000 in
theorem lifted (os : Os) (started : os.Started) (H : Type) (enc : TypeId × Value → H) :
    ReturnsInHanded {} Try.checked os 4 .any (Rows.fnUnescapeSplitsOverConcatenationSpec.pre6 enc Try.prog Try.f4 Rows.fnUnescapeSplitsOverConcatenationRow.domain false) (Rows.fnUnescapeSplitsOverConcatenationSpec.post enc Try.prog Try.f4 false true false false) := by
  refine returnsInHanded_of_change (C := Try.checked) own started (by kernel_rfl) Try.func4
    (ChangeSpec.witness6 (enc := enc) (C := Try.checked) false ⟨#[], #[.string ByteArray.empty, .string ByteArray.empty, .bool false], []⟩ 8 (by kernel_rfl) (by kernel_rfl) (by kernel_rfl) (by kernel_rfl)) ?_
  intro W base args ds gs before hval0 hW hcnd _
  have hval : ∀ (j : Nat) t v, Try.f4.params[j]? = some t → args[j]? = some v → Value.okWide Try.prog W .any base t v := hval0
  have hW' := hW
  obtain ⟨p, q, hA0, hV, rfl, hfz, hnd⟩ := hW
  have hA : DataW.TrodAll enc Try.prog W 0 (fun _ => true) true Try.f4.params.toList args.toList ds p := hA0
  rw [Try.params4] at hA hval
  obtain ⟨v0, vs0, d0, ds0, p0, q0, hargs, rfl, rfl, h0, r0⟩ := trodAll_cons hA
  obtain ⟨v1, vs1, d1, ds1, p1, q1, rfl, rfl, rfl, h1, r1⟩ := trodAll_cons r0
  obtain ⟨v2, vs2, d2, ds2, p2, q2, rfl, rfl, rfl, h2, r2⟩ := trodAll_cons r1
  obtain ⟨rfl, rfl, rfl⟩ := trodAll_nil r2
  obtain rfl : args = #[v0, v1, v2] := by cases args; simp_all
  obtain ⟨rfl, rfl⟩ := trodVars_none hV
  obtain ⟨a0, rfl, rfl, rfl, w0⟩ := open_string Try.underlying9 (hval 0 9 v0 rfl rfl) h0
  obtain ⟨a1, rfl, rfl, rfl, w1⟩ := open_string Try.underlying9 (hval 1 9 v1 rfl rfl) h1
  obtain ⟨a2, rfl, rfl, rfl⟩ := open_bool Try.underlying4 (hval 2 4 v2 rfl rfl) h2
  clear hA0 hval0
  simp only [List.append_nil] at hW'
  refine (walk a0 a1 a2 w0 w1 W).mono fun e W' ⟨he, bel⟩ => ?_
  subst he
  exact ⟨_, rfl, _, _, _, [], [], [], hW', trodAll_mk1 (shut_bool Try.underlying4 _), (trodAll_cons_mk (shut_string Try.underlying9 w0) (trodAll_cons_mk (shut_string Try.underlying9 w1) (trodAll_cons_mk (shut_bool Try.underlying4 _) trodAll_mk0))), rfl, bel.frame _, fun h => by cases h⟩

/-! ### the closed facts of the row, one by one -/
theorem k1 : (Rows.fnUnescapeSplitsOverConcatenationRow.wf (OpenSpec.ofChange Rows.fnUnescapeSplitsOverConcatenationSpec)) = true := by kernel_rfl
theorem k2 : (laidOutB Try.prog) = true := by kernel_rfl
theorem k3 : (mapsRowed Try.prog) = true := by kernel_rfl
theorem k4 : (Try.f4.params.all (Try.prog.readableRec ·)) = true := by kernel_rfl
theorem k5 : (namedTie Try.prog Rows.fnUnescapeSplitsOverConcatenationRow.named Rows.fnUnescapeSplitsOverConcatenationSpec.vars) = true := by kernel_rfl
theorem k6 : ((Rows.fnUnescapeSplitsOverConcatenationRow.stops == [])) = true := by kernel_rfl
theorem k7 : ((Try.prog.stops == [])) = true := by kernel_rfl
theorem k8 : ((Rows.fnUnescapeSplitsOverConcatenationRow.knobs == [])) = true := by kernel_rfl
theorem k9 : ((Try.prog.stopKnobs == [])) = true := by kernel_rfl
theorem k10 : ((Rows.fnUnescapeSplitsOverConcatenationRow.inPlace == Try.prog.inPlace 4)) = true := by kernel_rfl
theorem k11 : ((Rows.fnUnescapeSplitsOverConcatenationRow.unfollowed == Try.prog.unfollowed 4)) = true := by kernel_rfl
theorem k12 : ((Rows.fnUnescapeSplitsOverConcatenationRow.recurses == Try.prog.recurses 4)) = true := by kernel_rfl
theorem k13 : ((Rows.fnUnescapeSplitsOverConcatenationRow.named == Try.prog.varsNamed 4)) = true := by kernel_rfl
theorem k14 : ((Rows.fnUnescapeSplitsOverConcatenationRow.maps == (Try.f4.params.toList ++ Rows.fnUnescapeSplitsOverConcatenationSpec.plain.varTypes Try.prog).any (Try.prog.mapsRec ·))) = true := by kernel_rfl
theorem k15 : ((Rows.fnUnescapeSplitsOverConcatenationRow.ifaces == (Try.f4.params.toList ++ Rows.fnUnescapeSplitsOverConcatenationSpec.plain.varTypes Try.prog).any (Try.prog.ifacesRec ·))) = true := by kernel_rfl
theorem k16 : ((Rows.fnUnescapeSplitsOverConcatenationRow.mapsOut == Try.prog.mapsAmong Try.f4.resultTypes.toList)) = true := by kernel_rfl
theorem k17 : ((Rows.fnUnescapeSplitsOverConcatenationRow.loops == (Try.f4.params.toList ++ Rows.fnUnescapeSplitsOverConcatenationSpec.plain.varTypes Try.prog).any (Try.prog.loopsFrom ·))) = true := by kernel_rfl
theorem k18 : ((Rows.fnUnescapeSplitsOverConcatenationRow.wideKeys == (Try.f4.params.toList ++ Rows.fnUnescapeSplitsOverConcatenationSpec.plain.varTypes Try.prog ++ Try.f4.resultTypes.toList).any (Try.prog.wideKeysFrom ·))) = true := by kernel_rfl
theorem k19 : (Rows.fnUnescapeSplitsOverConcatenationSpec.vars.all (Try.prog.varReadable ·)) = true := by kernel_rfl
theorem k20 : (Try.f4.resultTypes.all (fun t => Try.prog.readableRec t && decide (t < Try.prog.types.size))) = true := by kernel_rfl
theorem k21 : ((Rows.fnUnescapeSplitsOverConcatenationRow.ifacesOut == Try.f4.resultTypes.toList.any (Try.prog.ifacesRec ·))) = true := by kernel_rfl
theorem k22 : ((Rows.fnUnescapeSplitsOverConcatenationRow.loopsOut == Try.f4.resultTypes.toList.any (Try.prog.loopsFrom ·))) = true := by kernel_rfl
theorem k23 : ((Rows.fnUnescapeSplitsOverConcatenationRow.plainKeys == Try.prog.plainKeys)) = true := by kernel_rfl
theorem k24 : (Rows.fnUnescapeSplitsOverConcatenationRow.shortTexts.isNone) = true := by kernel_rfl
theorem k25 : (Try.prog.stopsHeard) = true := by kernel_rfl
theorem k26 : (Try.prog.mayEnter) = true := mayEnter_yes
theorem k27 : ((Rows.fnUnescapeSplitsOverConcatenationRow.lifted == Try.prog.liftsFinal)) = true := (congrArg (Rows.fnUnescapeSplitsOverConcatenationRow.lifted == ·) liftsFinal_no).trans (by kernel_rfl)
theorem k28 : ((Try.prog.make == some Rows.fnUnescapeSplitsOverConcatenationRow.make)) = true := (congrArg (· == some Rows.fnUnescapeSplitsOverConcatenationRow.make) make_cut).trans (by kernel_rfl)
theorem k29 : ((Rows.fnUnescapeSplitsOverConcatenationRow.kinds == (if Rows.fnUnescapeSplitsOverConcatenationRow.domain.isEmpty then [] else Try.f4.params.toList.map fun t => match Try.prog.underlying t with | some (.int k) => some k | _ => none))) = true := by kernel_rfl
theorem k30 : ((Rows.fnUnescapeSplitsOverConcatenationRow.pinned == Rows.fnUnescapeSplitsOverConcatenationRow.pinnedBy)) = true := by kernel_rfl
theorem k31 : ((Rows.fnUnescapeSplitsOverConcatenationRow.veiled == (Try.f4.params.toList ++ Rows.fnUnescapeSplitsOverConcatenationSpec.plain.varTypes Try.prog ++ Try.f4.resultTypes.toList).any (Try.prog.veiledRec ·))) = true := by kernel_rfl
theorem k32 : (Rows.fnUnescapeSplitsOverConcatenationRow.veiledFits Try.prog Try.f4.params.toList (Try.f4.params.toList ++ Rows.fnUnescapeSplitsOverConcatenationSpec.plain.varTypes Try.prog ++ Try.f4.resultTypes.toList)) = true := by kernel_rfl
theorem closed : joinedFacts Try.prog 4 Try.f4 Rows.fnUnescapeSplitsOverConcatenationSpec Rows.fnUnescapeSplitsOverConcatenationRow = true := by
  simp only [joinedFacts, Bool.and_eq_true]
  exact ⟨⟨⟨⟨⟨⟨⟨⟨⟨⟨⟨⟨⟨⟨⟨⟨⟨⟨⟨⟨⟨⟨⟨⟨⟨⟨⟨⟨⟨⟨⟨k1, k2⟩, k3⟩, k4⟩, k5⟩, k6⟩, k7⟩, k8⟩, k9⟩, k10⟩, k11⟩, k12⟩, k13⟩, k14⟩, k15⟩, k16⟩, k17⟩, k18⟩, k19⟩, k20⟩, k21⟩, k22⟩, k23⟩, k24⟩, k25⟩, k26⟩, k27⟩, k28⟩, k29⟩, k30⟩, k31⟩, k32⟩

theorem hinst : Try.f4.isInstance Try.prog Rows.fnUnescapeSplitsOverConcatenationRow.origin Rows.fnUnescapeSplitsOverConcatenationRow.targs := of_decide_eq_true (by kernel_rfl)
theorem hwrap : Try.f4.isWrapper Try.prog Rows.fnUnescapeSplitsOverConcatenationRow.wrapper Rows.fnUnescapeSplitsOverConcatenationRow.mainSum := by
  unfold Func.isWrapper
  rw [if_neg (by decide +kernel)]
  exact ⟨rfl, rfl⟩
theorem hfn : Try.prog.funcNamed Rows.fnUnescapeSplitsOverConcatenationRow.func = some 4 := by kernel_rfl

theorem pp : Try.pinned.checked.prog = Try.prog := by kernel_rfl
set_option maxRecDepth 100000 in
theorem over : Rows.fnUnescapeSplitsOverConcatenationRow.holds Try.pinned (OpenSpec.ofChange Rows.fnUnescapeSplitsOverConcatenationSpec) :=
  OpenClaim.holds_of_wide 4 Try.f4 rfl rfl rfl rfl rfl rfl rfl ⟨rfl, rfl, rfl, rfl, rfl⟩ rfl rfl rfl rfl rfl (by rw [pp]; exact hfn) (by rw [pp]; exact Try.func4) (by rw [pp]; exact closed) (by rw [pp]; exact hinst) (by rw [pp]; exact hwrap)
    (fun os started H enc _ => lifted os started H enc)

/-- THE STATEMENT -/
theorem proved : Rows.FnUnescapeSplitsOverConcatenationSaid :=
  over
#print axioms proved
end Go.Proofs.Qxb6001154a.fnUnescapeSplitsOverConcatenation
