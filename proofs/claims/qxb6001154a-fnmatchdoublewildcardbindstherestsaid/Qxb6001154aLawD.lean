/-
  FnMatchDoubleWildcardBindsTheRest: the row.
-/
import Derived.Test.Qxb6001154aRows
import Derived.Test.Qxb6001154aLawDw
import Derived.Test.Qxb6001154aFacts
import Derived.Test.Qxb6001154aFrame
namespace Go.Proofs.Qxb6001154a.fnMatchDoubleWildcardBindsTheRest
open Go.ChangeShapes Go.WideShapes Go.ChangeAt Go.RowKit
open Go.ChangeMaps (open_string shut_string)
set_option linter.unusedVariables false

set_option maxRecDepth 100000 in
theorem lifted (os : Os) (started : os.Started) (H : Type) (enc : TypeId × Value → H) :
    ReturnsInHanded {} Try.checked os 8 .any (Rows.fnMatchDoubleWildcardBindsTheRestSpec.pre6 enc Try.prog Try.f8 Rows.fnMatchDoubleWildcardBindsTheRestRow.domain false) (Rows.fnMatchDoubleWildcardBindsTheRestSpec.post enc Try.prog Try.f8 false true false false) := by
  refine returnsInHanded_of_change (C := Try.checked) own started (by kernel_rfl) Try.func8
    (ChangeSpec.witness6 (enc := enc) (C := Try.checked) false ⟨#[], #[.slice none 0 0, .slice none 0 0], []⟩ 8 (by kernel_rfl) (by kernel_rfl) (by kernel_rfl) (by kernel_rfl)) ?_
  intro W base args ds gs before hval0 hW hcnd _
  have hval : ∀ (j : Nat) t v, Try.f8.params[j]? = some t → args[j]? = some v → Value.okWide Try.prog W .any base t v := hval0
  have hW' := hW
  obtain ⟨p, q, hA0, hV, rfl, hfz, hnd⟩ := hW
  have hA : DataW.TrodAll enc Try.prog W 0 (fun _ => true) true Try.f8.params.toList args.toList ds p := hA0
  rw [Try.params8] at hA hval
  obtain ⟨v0, vs0, d0, ds0, p0, q0, hargs, rfl, rfl, h0, r0⟩ := trodAll_cons hA
  obtain ⟨v1, vs1, d1, ds1, p1, q1, rfl, rfl, rfl, h1, r1⟩ := trodAll_cons r0
  obtain ⟨rfl, rfl, rfl⟩ := trodAll_nil r1
  obtain rfl : args = #[v0, v1] := by cases args; simp_all
  obtain ⟨rfl, rfl⟩ := trodVars_none hV
  obtain ⟨a0, len0, cap0, rfl⟩ := okWide_slice Try.underlying26 (hval 0 26 v0 rfl rfl)
  obtain ⟨a1, len1, cap1, rfl⟩ := okWide_slice Try.underlying26 (hval 1 26 v1 rfl rfl)
  have k0 := h0
  have lt0 : ∀ x ∈ p0, x.block < W.heap.size := by obtain ⟨m, hm⟩ := k0; exact DataW.trod_lt m _ _ _ hm
  have k1 := h1
  have lt1 : ∀ x ∈ p1, x.block < W.heap.size := by obtain ⟨m, hm⟩ := k1; exact DataW.trod_lt m _ _ _ hm
  obtain ⟨ss0, rfl, s0, l0⟩ : ∃ ss : List ByteArray, len0 = ss.length ∧ SR W a0 ss ∧ ss.length ≤ maxLen := by
    obtain ⟨fuel, hf⟩ := h0
    exact open_sr hf
  obtain ⟨ss1, rfl, s1, l1⟩ : ∃ ss : List ByteArray, len1 = ss.length ∧ SR W a1 ss ∧ ss.length ≤ maxLen := by
    obtain ⟨fuel, hf⟩ := h1
    exact open_sr hf
  clear hA0 hval0
  refine (walk a0 a1 cap0 cap1 ss0 ss1 W s0 s1 l0 l1).mono fun e W' ⟨he, bel⟩ => ?_
  subst he
  exact ⟨_, rfl, _, _, _, [], _, [], hW', trodAll_mk1 (shut_bool Try.underlying4 _), (trodAll_cons_mk (Below.trod laidOut (by kernel_rfl) (of_decide_eq_true (by kernel_rfl)) k0 bel lt0) (trodAll_cons_mk (Below.trod laidOut (by kernel_rfl) (of_decide_eq_true (by kernel_rfl)) k1 bel lt1) trodAll_mk0)), rfl, bel.frame _, fun h => by cases h⟩

/-! ### the closed facts of the row, one by one -/
theorem k1 : (Rows.fnMatchDoubleWildcardBindsTheRestRow.wf (OpenSpec.ofChange Rows.fnMatchDoubleWildcardBindsTheRestSpec)) = true := by kernel_rfl
theorem k2 : (laidOutB Try.prog) = true := by kernel_rfl
theorem k3 : (mapsRowed Try.prog) = true := by kernel_rfl
theorem k4 : (Try.f8.params.all (Try.prog.readableRec ·)) = true := by kernel_rfl
theorem k5 : (namedTie Try.prog Rows.fnMatchDoubleWildcardBindsTheRestRow.named Rows.fnMatchDoubleWildcardBindsTheRestSpec.vars) = true := by kernel_rfl
theorem k6 : ((Rows.fnMatchDoubleWildcardBindsTheRestRow.stops == [])) = true := by kernel_rfl
theorem k7 : ((Try.prog.stops == [])) = true := by kernel_rfl
theorem k8 : ((Rows.fnMatchDoubleWildcardBindsTheRestRow.knobs == [])) = true := by kernel_rfl
theorem k9 : ((Try.prog.stopKnobs == [])) = true := by kernel_rfl
theorem k10 : ((Rows.fnMatchDoubleWildcardBindsTheRestRow.inPlace == Try.prog.inPlace 8)) = true := by kernel_rfl
theorem k11 : ((Rows.fnMatchDoubleWildcardBindsTheRestRow.unfollowed == Try.prog.unfollowed 8)) = true := by kernel_rfl
theorem k12 : ((Rows.fnMatchDoubleWildcardBindsTheRestRow.recurses == Try.prog.recurses 8)) = true := by kernel_rfl
theorem k13 : ((Rows.fnMatchDoubleWildcardBindsTheRestRow.named == Try.prog.varsNamed 8)) = true := by kernel_rfl
theorem k14 : ((Rows.fnMatchDoubleWildcardBindsTheRestRow.maps == (Try.f8.params.toList ++ Rows.fnMatchDoubleWildcardBindsTheRestSpec.plain.varTypes Try.prog).any (Try.prog.mapsRec ·))) = true := by kernel_rfl
theorem k15 : ((Rows.fnMatchDoubleWildcardBindsTheRestRow.ifaces == (Try.f8.params.toList ++ Rows.fnMatchDoubleWildcardBindsTheRestSpec.plain.varTypes Try.prog).any (Try.prog.ifacesRec ·))) = true := by kernel_rfl
theorem k16 : ((Rows.fnMatchDoubleWildcardBindsTheRestRow.mapsOut == Try.prog.mapsAmong Try.f8.resultTypes.toList)) = true := by kernel_rfl
theorem k17 : ((Rows.fnMatchDoubleWildcardBindsTheRestRow.loops == (Try.f8.params.toList ++ Rows.fnMatchDoubleWildcardBindsTheRestSpec.plain.varTypes Try.prog).any (Try.prog.loopsFrom ·))) = true := by kernel_rfl
theorem k18 : ((Rows.fnMatchDoubleWildcardBindsTheRestRow.wideKeys == (Try.f8.params.toList ++ Rows.fnMatchDoubleWildcardBindsTheRestSpec.plain.varTypes Try.prog ++ Try.f8.resultTypes.toList).any (Try.prog.wideKeysFrom ·))) = true := by kernel_rfl
theorem k19 : (Rows.fnMatchDoubleWildcardBindsTheRestSpec.vars.all (Try.prog.varReadable ·)) = true := by kernel_rfl
theorem k20 : (Try.f8.resultTypes.all (fun t => Try.prog.readableRec t && decide (t < Try.prog.types.size))) = true := by kernel_rfl
theorem k21 : ((Rows.fnMatchDoubleWildcardBindsTheRestRow.ifacesOut == Try.f8.resultTypes.toList.any (Try.prog.ifacesRec ·))) = true := by kernel_rfl
theorem k22 : ((Rows.fnMatchDoubleWildcardBindsTheRestRow.loopsOut == Try.f8.resultTypes.toList.any (Try.prog.loopsFrom ·))) = true := by kernel_rfl
theorem k23 : ((Rows.fnMatchDoubleWildcardBindsTheRestRow.plainKeys == Try.prog.plainKeys)) = true := by kernel_rfl
theorem k24 : (Rows.fnMatchDoubleWildcardBindsTheRestRow.shortTexts.isNone) = true := by kernel_rfl
theorem k25 : (Try.prog.stopsHeard) = true := by kernel_rfl
theorem k26 : (Try.prog.mayEnter) = true := mayEnter_yes
theorem k27 : ((Rows.fnMatchDoubleWildcardBindsTheRestRow.lifted == Try.prog.liftsFinal)) = true := (congrArg (Rows.fnMatchDoubleWildcardBindsTheRestRow.lifted == ·) liftsFinal_no).trans (by kernel_rfl)
theorem k28 : ((Try.prog.make == some Rows.fnMatchDoubleWildcardBindsTheRestRow.make)) = true := (congrArg (· == some Rows.fnMatchDoubleWildcardBindsTheRestRow.make) make_cut).trans (by kernel_rfl)
theorem k29 : ((Rows.fnMatchDoubleWildcardBindsTheRestRow.kinds == (if Rows.fnMatchDoubleWildcardBindsTheRestRow.domain.isEmpty then [] else Try.f8.params.toList.map fun t => match Try.prog.underlying t with | some (.int k) => some k | _ => none))) = true := by kernel_rfl
theorem k30 : ((Rows.fnMatchDoubleWildcardBindsTheRestRow.pinned == Rows.fnMatchDoubleWildcardBindsTheRestRow.pinnedBy)) = true := by kernel_rfl
theorem k31 : ((Rows.fnMatchDoubleWildcardBindsTheRestRow.veiled == (Try.f8.params.toList ++ Rows.fnMatchDoubleWildcardBindsTheRestSpec.plain.varTypes Try.prog ++ Try.f8.resultTypes.toList).any (Try.prog.veiledRec ·))) = true := by kernel_rfl
theorem k32 : (Rows.fnMatchDoubleWildcardBindsTheRestRow.veiledFits Try.prog Try.f8.params.toList (Try.f8.params.toList ++ Rows.fnMatchDoubleWildcardBindsTheRestSpec.plain.varTypes Try.prog ++ Try.f8.resultTypes.toList)) = true := by kernel_rfl
theorem closed : joinedFacts Try.prog 8 Try.f8 Rows.fnMatchDoubleWildcardBindsTheRestSpec Rows.fnMatchDoubleWildcardBindsTheRestRow = true := by
  simp only [joinedFacts, Bool.and_eq_true]
  exact ⟨⟨⟨⟨⟨⟨⟨⟨⟨⟨⟨⟨⟨⟨⟨⟨⟨⟨⟨⟨⟨⟨⟨⟨⟨⟨⟨⟨⟨⟨⟨k1, k2⟩, k3⟩, k4⟩, k5⟩, k6⟩, k7⟩, k8⟩, k9⟩, k10⟩, k11⟩, k12⟩, k13⟩, k14⟩, k15⟩, k16⟩, k17⟩, k18⟩, k19⟩, k20⟩, k21⟩, k22⟩, k23⟩, k24⟩, k25⟩, k26⟩, k27⟩, k28⟩, k29⟩, k30⟩, k31⟩, k32⟩

theorem hinst : Try.f8.isInstance Try.prog Rows.fnMatchDoubleWildcardBindsTheRestRow.origin Rows.fnMatchDoubleWildcardBindsTheRestRow.targs := of_decide_eq_true (by kernel_rfl)
theorem hwrap : Try.f8.isWrapper Try.prog Rows.fnMatchDoubleWildcardBindsTheRestRow.wrapper Rows.fnMatchDoubleWildcardBindsTheRestRow.mainSum := by
  unfold Func.isWrapper
  rw [if_neg (by decide +kernel)]
  exact ⟨rfl, rfl⟩
theorem hfn : Try.prog.funcNamed Rows.fnMatchDoubleWildcardBindsTheRestRow.func = some 8 := by kernel_rfl

theorem pp : Try.pinned.checked.prog = Try.prog := by kernel_rfl
set_option maxRecDepth 100000 in
theorem over : Rows.fnMatchDoubleWildcardBindsTheRestRow.holds Try.pinned (OpenSpec.ofChange Rows.fnMatchDoubleWildcardBindsTheRestSpec) :=
  OpenClaim.holds_of_wide 8 Try.f8 rfl rfl rfl rfl rfl rfl rfl ⟨rfl, rfl, rfl, rfl, rfl⟩ rfl rfl rfl rfl rfl (by rw [pp]; exact hfn) (by rw [pp]; exact Try.func8) (by rw [pp]; exact closed) (by rw [pp]; exact hinst) (by rw [pp]; exact hwrap)
    (fun os started H enc _ => lifted os started H enc)


/-- THE STATEMENT -/
theorem proved : Rows.FnMatchDoubleWildcardBindsTheRestSaid :=
  over
#print axioms proved
end Go.Proofs.Qxb6001154a.fnMatchDoubleWildcardBindsTheRest
