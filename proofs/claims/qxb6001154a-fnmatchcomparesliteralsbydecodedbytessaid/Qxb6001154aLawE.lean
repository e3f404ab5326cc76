/-
  FnMatchComparesLiteralsByDecodedBytes: the row.
-/
import Derived.Test.Qxb6001154aRows
import Derived.Test.Qxb6001154aLawEw
import Derived.Test.Qxb6001154aFacts
import Derived.Test.Qxb6001154aFrame
namespace Go.Proofs.Qxb6001154a.fnMatchComparesLiteralsByDecodedBytes
open Go.ChangeShapes Go.WideShapes Go.ChangeAt Go.RowKit
open Go.ChangeMaps (open_string shut_string)
set_option linter.unusedVariables false

set_option maxRecDepth 100000 in
theorem lifted (os : Os) (started : os.Started) (H : Type) (enc : TypeId × Value → H) :
    ReturnsInHanded {} Try.checked os 6 .any (Rows.fnMatchComparesLiteralsByDecodedBytesSpec.pre6 enc Try.prog Try.f6 Rows.fnMatchComparesLiteralsByDecodedBytesRow.domain false) (Rows.fnMatchComparesLiteralsByDecodedBytesSpec.post enc Try.prog Try.f6 false true false false) := by
  refine returnsInHanded_of_change (C := Try.checked) own started (by kernel_rfl) Try.func6
    (ChangeSpec.witness6 (enc := enc) (C := Try.checked) false ⟨#[], #[.slice none 0 0, .string ByteArray.empty, .bool false], []⟩ 8 (by kernel_rfl) (by kernel_rfl) (by kernel_rfl) (by kernel_rfl)) ?_
  intro W base args ds gs before hval0 hW hcnd _
  have hval : ∀ (j : Nat) t v, Try.f6.params[j]? = some t → args[j]? = some v → Value.okWide Try.prog W .any base t v := hval0
  have hW' := hW
  obtain ⟨p, q, hA0, hV, rfl, hfz, hnd⟩ := hW
  have hA : DataW.TrodAll enc Try.prog W 0 (fun _ => true) true Try.f6.params.toList args.toList ds p := hA0
  rw [Try.params6] at hA hval
  obtain ⟨v0, vs0, d0, ds0, p0, q0, hargs, rfl, rfl, h0, r0⟩ := trodAll_cons hA
  obtain ⟨v1, vs1, d1, ds1, p1, q1, rfl, rfl, rfl, h1, r1⟩ := trodAll_cons r0
  obtain ⟨v2, vs2, d2, ds2, p2, q2, rfl, rfl, rfl, h2, r2⟩ := trodAll_cons r1
  obtain ⟨rfl, rfl, rfl⟩ := trodAll_nil r2
  obtain rfl : args = #[v0, v1, v2] := by cases args; simp_all
  obtain ⟨rfl, rfl⟩ := trodVars_none hV
  obtain ⟨a0, len0, cap0, rfl⟩ := okWide_slice Try.underlying26 (hval 0 26 v0 rfl rfl)
  have k0 := h0
  have lt0 : ∀ x ∈ p0, x.block < W.heap.size := by obtain ⟨m, hm⟩ := k0; exact DataW.trod_lt m _ _ _ hm
  obtain ⟨ss0, rfl, s0, l0⟩ : ∃ ss : List ByteArray, len0 = ss.length ∧ SR W a0 ss ∧ ss.length ≤ maxLen := by
    obtain ⟨fuel, hf⟩ := h0
    exact open_sr hf
  obtain ⟨a1, rfl, rfl, rfl, w1⟩ := open_string Try.underlying9 (hval 1 9 v1 rfl rfl) h1
  obtain ⟨a2, rfl, rfl, rfl⟩ := open_bool Try.underlying4 (hval 2 4 v2 rfl rfl) h2
  clear hA0 hval0
  refine (walk a0 cap0 ss0 a1 a2 W s0 l0 w1).mono fun e W' ⟨he, bel⟩ => ?_
  subst he
  exact ⟨_, rfl, _, _, _, [], _, [], hW', trodAll_mk1 (shut_bool Try.underlying4 _), (trodAll_cons_mk (Below.trod laidOut (by kernel_rfl) (of_decide_eq_true (by kernel_rfl)) k0 bel lt0) (trodAll_cons_mk (shut_string Try.underlying9 w1) (trodAll_cons_mk (shut_bool Try.underlying4 _) trodAll_mk0))), rfl, bel.frame _, fun h => by cases h⟩

/-! ### the closed facts of the row, one by one -/
theorem k1 : (Rows.fnMatchComparesLiteralsByDecodedBytesRow.wf (OpenSpec.ofChange Rows.fnMatchComparesLiteralsByDecodedBytesSpec)) = true := by kernel_rfl
theorem k2 : (laidOutB Try.prog) = true := by kernel_rfl
theorem k3 : (mapsRowed Try.prog) = true := by kernel_rfl
theorem k4 : (Try.f6.params.all (Try.prog.readableRec ·)) = true := by kernel_rfl
theorem k5 : (namedTie Try.prog Rows.fnMatchComparesLiteralsByDecodedBytesRow.named Rows.fnMatchComparesLiteralsByDecodedBytesSpec.vars) = true := by kernel_rfl
theorem k6 : ((Rows.fnMatchComparesLiteralsByDecodedBytesRow.stops == [])) = true := by kernel_rfl
theorem k7 : ((Try.prog.stops == [])) = true := by kernel_rfl
theorem k8 : ((Rows.fnMatchComparesLiteralsByDecodedBytesRow.knobs == [])) = true := by kernel_rfl
theorem k9 : ((Try.prog.stopKnobs == [])) = true := by kernel_rfl
theorem k10 : ((Rows.fnMatchComparesLiteralsByDecodedBytesRow.inPlace == Try.prog.inPlace 6)) = true := by kernel_rfl
theorem k11 : ((Rows.fnMatchComparesLiteralsByDecodedBytesRow.unfollowed == Try.prog.unfollowed 6)) = true := by kernel_rfl
theorem k12 : ((Rows.fnMatchComparesLiteralsByDecodedBytesRow.recurses == Try.prog.recurses 6)) = true := by kernel_rfl
theorem k13 : ((Rows.fnMatchComparesLiteralsByDecodedBytesRow.named == Try.prog.varsNamed 6)) = true := by kernel_rfl
theorem k14 : ((Rows.fnMatchComparesLiteralsByDecodedBytesRow.maps == (Try.f6.params.toList ++ Rows.fnMatchComparesLiteralsByDecodedBytesSpec.plain.varTypes Try.prog).any (Try.prog.mapsRec ·))) = true := by kernel_rfl
theorem k15 : ((Rows.fnMatchComparesLiteralsByDecodedBytesRow.ifaces == (Try.f6.params.toList ++ Rows.fnMatchComparesLiteralsByDecodedBytesSpec.plain.varTypes Try.prog).any (Try.prog.ifacesRec ·))) = true := by kernel_rfl
theorem k16 : ((Rows.fnMatchComparesLiteralsByDecodedBytesRow.mapsOut == Try.prog.mapsAmong Try.f6.resultTypes.toList)) = true := by kernel_rfl
theorem k17 : ((Rows.fnMatchComparesLiteralsByDecodedBytesRow.loops == (Try.f6.params.toList ++ Rows.fnMatchComparesLiteralsByDecodedBytesSpec.plain.varTypes Try.prog).any (Try.prog.loopsFrom ·))) = true := by kernel_rfl
theorem k18 : ((Rows.fnMatchComparesLiteralsByDecodedBytesRow.wideKeys == (Try.f6.params.toList ++ Rows.fnMatchComparesLiteralsByDecodedBytesSpec.plain.varTypes Try.prog ++ Try.f6.resultTypes.toList).any (Try.prog.wideKeysFrom ·))) = true := by kernel_rfl
theorem k19 : (Rows.fnMatchComparesLiteralsByDecodedBytesSpec.vars.all (Try.prog.varReadable ·)) = true := by kernel_rfl
theorem k20 : (Try.f6.resultTypes.all (fun t => Try.prog.readableRec t && decide (t < Try.prog.types.size))) = true := by kernel_rfl
theorem k21 : ((Rows.fnMatchComparesLiteralsByDecodedBytesRow.ifacesOut == Try.f6.resultTypes.toList.any (Try.prog.ifacesRec ·))) = true := by kernel_rfl
theorem k22 : ((Rows.fnMatchComparesLiteralsByDecodedBytesRow.loopsOut == Try.f6.resultTypes.toList.any (Try.prog.loopsFrom ·))) = true := by kernel_rfl
theorem k23 : ((Rows.fnMatchComparesLiteralsByDecodedBytesRow.plainKeys == Try.prog.plainKeys)) = true := by kernel_rfl
theorem k24 : (Rows.fnMatchComparesLiteralsByDecodedBytesRow.shortTexts.isNone) = true := by kernel_rfl
theorem k25 : (Try.prog.stopsHeard) = true := by kernel_rfl
theorem k26 : (Try.prog.mayEnter) = true := mayEnter_yes
theorem k27 : ((Rows.fnMatchComparesLiteralsByDecodedBytesRow.lifted == Try.prog.liftsFinal)) = true := (congrArg (Rows.fnMatchComparesLiteralsByDecodedBytesRow.lifted == ·) liftsFinal_no).trans (by kernel_rfl)
theorem k28 : ((Try.prog.make == some Rows.fnMatchComparesLiteralsByDecodedBytesRow.make)) = true := (congrArg (· == some Rows.fnMatchComparesLiteralsByDecodedBytesRow.make) make_cut).trans (by kernel_rfl)
theorem k29 : ((Rows.fnMatchComparesLiteralsByDecodedBytesRow.kinds == (if Rows.fnMatchComparesLiteralsByDecodedBytesRow.domain.isEmpty then [] else Try.f6.params.toList.map fun t => match Try.prog.underlying t with | some (.int k) => some k | _ => none))) = true := by kernel_rfl
theorem k30 : ((Rows.fnMatchComparesLiteralsByDecodedBytesRow.pinned == Rows.fnMatchComparesLiteralsByDecodedBytesRow.pinnedBy)) = true := by kernel_rfl
theorem k31 : ((Rows.fnMatchComparesLiteralsByDecodedBytesRow.veiled == (Try.f6.params.toList ++ Rows.fnMatchComparesLiteralsByDecodedBytesSpec.plain.varTypes Try.prog ++ Try.f6.resultTypes.toList).any (Try.prog.veiledRec ·))) = true := by kernel_rfl
theorem k32 : (Rows.fnMatchComparesLiteralsByDecodedBytesRow.veiledFits Try.prog Try.f6.params.toList (Try.f6.params.toList ++ Rows.fnMatchComparesLiteralsByDecodedBytesSpec.plain.varTypes Try.prog ++ Try.f6.resultTypes.toList)) = true := by kernel_rfl
theorem closed : joinedFacts Try.prog 6 Try.f6 Rows.fnMatchComparesLiteralsByDecodedBytesSpec Rows.fnMatchComparesLiteralsByDecodedBytesRow = true := by
  simp only [joinedFacts, Bool.and_eq_true]
  exact ⟨⟨⟨⟨⟨⟨⟨⟨⟨⟨⟨⟨⟨⟨⟨⟨⟨⟨⟨⟨⟨⟨⟨⟨⟨⟨⟨⟨⟨⟨⟨k1, k2⟩, k3⟩, k4⟩, k5⟩, k6⟩, k7⟩, k8⟩, k9⟩, k10⟩, k11⟩, k12⟩, k13⟩, k14⟩, k15⟩, k16⟩, k17⟩, k18⟩, k19⟩, k20⟩, k21⟩, k22⟩, k23⟩, k24⟩, k25⟩, k26⟩, k27⟩, k28⟩, k29⟩, k30⟩, k31⟩, k32⟩

theorem hinst : Try.f6.isInstance Try.prog Rows.fnMatchComparesLiteralsByDecodedBytesRow.origin Rows.fnMatchComparesLiteralsByDecodedBytesRow.targs := of_decide_eq_true (by kernel_rfl)
theorem hwrap : Try.f6.isWrapper Try.prog Rows.fnMatchComparesLiteralsByDecodedBytesRow.wrapper Rows.fnMatchComparesLiteralsByDecodedBytesRow.mainSum := by
  unfold Func.isWrapper
  rw [if_neg (by decide +kernel)]
  exact ⟨rfl, rfl⟩
theorem hfn : Try.prog.funcNamed Rows.fnMatchComparesLiteralsByDecodedBytesRow.func = some 6 := by kernel_rfl

theorem pp : Try.pinned.checked.prog = Try.prog := by kernel_rfl
set_option maxRecDepth 100000 in
theorem over : Rows.fnMatchComparesLiteralsByDecodedBytesRow.holds Try.pinned (OpenSpec.ofChange Rows.fnMatchComparesLiteralsByDecodedBytesSpec) :=
  OpenClaim.holds_of_wide 6 Try.f6 rfl rfl rfl rfl rfl rfl rfl ⟨rfl, rfl, rfl, rfl, rfl⟩ rfl rfl rfl rfl rfl (by rw [pp]; exact hfn) (by rw [pp]; exact Try.func6) (by rw [pp]; exact closed) (by rw [pp]; exact hinst) (by rw [pp]; exact hwrap)
    (fun os started H enc _ => lifted os started H enc)


/-- THE STATEMENT -/
theorem proved : Rows.FnMatchComparesLiteralsByDecodedBytesSaid :=
  over
#print axioms proved
end Go.Proofs.Qxb6001154a.fnMatchComparesLiteralsByDecodedBytes
