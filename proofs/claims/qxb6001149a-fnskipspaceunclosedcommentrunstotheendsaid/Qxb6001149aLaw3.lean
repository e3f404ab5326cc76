import Derived.Test.Qxb6001149aRows
import Derived.Test.Qxb6001149aCalls
import Derived.WalkKit
import Derived.ProofKit
import Derived.OpenShut
import Derived.ShutString
import Derived.Carry
namespace Go.Proofs.Qxb6001149a.fnSkipSpaceUnclosedCommentRunsToTheEnd
open Go.ChangeShapes Go.WideShapes Go.ChangeAt Go.RowKit
open Go.ChangeMaps (open_string shut_string)
set_option linter.unusedVariables false

theorem own : ownKnob Try.prog.godebug = none := by kernel_rfl

theorem size_mk (a : Array UInt8) : (⟨a⟩ : ByteArray).size = a.size := rfl

theorem hasIn_no {c : List UInt8} {set : List UInt8} (h : hasIn c set = false) : ∀ b ∈ c, ∀ x ∈ set, b ≠ x := by
  intro b hb x hx e
  unfold hasIn at h
  have := List.any_eq_false.1 h b hb
  rw [e] at this
  simp [hx] at this

theorem zz_nil {s : ByteArray} (h : Pl.sk s.data.toList = []) : (zz s).toList.isEmpty = true := empty_toList (by rw [zz_data, h])

theorem end1 (c : ByteArray) (h : hasIn c.data.toList [10, 13] = false) : (zz (⟨#[45, 45]⟩ ++ c)).toList.isEmpty = true :=
  zz_nil (by
    rw [ByteArray.data_append, Array.toList_append]
    exact Pl.sk_dash_end _ fun b hb => ⟨hasIn_no h b hb 10 (by simp), hasIn_no h b hb 13 (by simp)⟩)
theorem end2 (c : ByteArray) (h : hasIn c.data.toList [10, 13] = false) : (zz (⟨#[32, 9, 45, 45]⟩ ++ c)).toList.isEmpty = true :=
  zz_nil (by
    rw [ByteArray.data_append, Array.toList_append]
    exact Pl.sk_dash_end2 _ fun b hb => ⟨hasIn_no h b hb 10 (by simp), hasIn_no h b hb 13 (by simp)⟩)
theorem end3 (c : ByteArray) (h : hasIn c.data.toList [42] = false) : (zz (⟨#[47, 42]⟩ ++ c)).toList.isEmpty = true :=
  zz_nil (by
    rw [ByteArray.data_append, Array.toList_append]
    exact Pl.sk_open_end _ fun b hb => hasIn_no h b hb 42 (by simp))
theorem end4 (c : ByteArray) (h : hasIn c.data.toList [42] = false) : (zz (⟨#[47, 42, 47, 42]⟩ ++ c ++ ⟨#[42, 47]⟩)).toList.isEmpty = true :=
  zz_nil (by
    simp only [ByteArray.data_append, Array.toList_append, List.append_assoc]
    exact Pl.sk_open_end2 _ fun b hb => hasIn_no h b hb 42 (by simp))
theorem end5 (c : ByteArray) (h : hasIn c.data.toList [42] = false) : (zz (⟨#[47, 42]⟩ ++ c ++ ⟨#[47, 42]⟩ ++ c ++ ⟨#[42, 47]⟩)).toList.isEmpty = true :=
  zz_nil (by
    simp only [ByteArray.data_append, Array.toList_append, List.append_assoc]
    exact Pl.sk_open_end3 _ fun b hb => hasIn_no h b hb 42 (by simp))

set_option maxRecDepth 100000 in
set_option maxHeartbeats 1000000 in
theorem walk (a0 : ByteArray) (w0 : a0.size ≤ maxLen) (w : World) :
    Calls Try.prog 5 #[.string a0] w fun e w' => e = .returned (.bool true) ∧ Below w.heap.size w w' := by
  have hb6 := fun w => bytes11 a0 w w0
  by_cases h : a0.size ≤ 1048576
  · rw [decide_eq_true h] at hb6
    have HB : Aside (∀ w, Calls Try.prog 11 #[.string a0] w fun e w' => e = .returned (.bool true) ∧ w' = w) := hb6
    clear hb6
    go_enter Try.func5, Try.ntmps5
    go_wp2_with fail
    refine (HB.out _).mono ?_
    rintro e w1 ⟨rfl, rfl⟩
    go_wp2_with fail
    refine (has_any a0 ⟨#[10, 13]⟩ _ w0 (by decide)).mono ?_
    rintro e w2 ⟨rfl, b2⟩
    clear HB
    cases h1 : hasIn a0.data.toList [10, 13]
    · have z1 := end1 a0 h1
      have z2 := end2 a0 h1
      have HC1 : Aside (∀ w, Calls Try.prog 7 #[.string (⟨#[45, 45]⟩ ++ a0)] w fun e w' => e = .returned (.string (zz (⟨#[45, 45]⟩ ++ a0))) ∧ Below w.heap.size w w') := fun w => zz_any _ w (by simp [size_mk]; omega)
      have HC2 : Aside (∀ w, Calls Try.prog 7 #[.string (⟨#[32, 9, 45, 45]⟩ ++ a0)] w fun e w' => e = .returned (.string (zz (⟨#[32, 9, 45, 45]⟩ ++ a0))) ∧ Below w.heap.size w w') := fun w => zz_any _ w (by simp [size_mk]; omega)
      generalize zz (⟨#[45, 45]⟩ ++ a0) = r1 at *
      generalize zz (⟨#[32, 9, 45, 45]⟩ ++ a0) = r2 at *
      go_wp2_with fail
      refine (HC1.out _).mono ?_
      rintro e w3 ⟨rfl, b3⟩
      have b2 := b2.trans (b3.mono b2.size)
      clear b3
      go_wp2_with fail
      refine (HC2.out _).mono ?_
      rintro e w3 ⟨rfl, b3⟩
      have b2 := b2.trans (b3.mono b2.size)
      clear b3 HC1 HC2
      go_wp2_with fail
      refine (has_any a0 ⟨#[42]⟩ _ w0 (by decide)).mono ?_
      rintro e w3 ⟨rfl, b3⟩
      have b2 := b2.trans (b3.mono b2.size)
      clear b3
      cases h2 : hasIn a0.data.toList [42]
      · have z3 := end3 a0 h2
        have z4 := end4 a0 h2
        have z5 := end5 a0 h2
        have HC3 : Aside (∀ w, Calls Try.prog 7 #[.string (⟨#[47, 42]⟩ ++ a0)] w fun e w' => e = .returned (.string (zz (⟨#[47, 42]⟩ ++ a0))) ∧ Below w.heap.size w w') := fun w => zz_any _ w (by simp [size_mk]; omega)
        have HC4 : Aside (∀ w, Calls Try.prog 7 #[.string (⟨#[47, 42, 47, 42]⟩ ++ a0 ++ ⟨#[42, 47]⟩)] w fun e w' => e = .returned (.string (zz (⟨#[47, 42, 47, 42]⟩ ++ a0 ++ ⟨#[42, 47]⟩))) ∧ Below w.heap.size w w') := fun w => zz_any _ w (by simp [size_mk]; omega)
        have HC5 : Aside (∀ w, Calls Try.prog 7 #[.string (⟨#[47, 42]⟩ ++ a0 ++ ⟨#[47, 42]⟩ ++ a0 ++ ⟨#[42, 47]⟩)] w fun e w' => e = .returned (.string (zz (⟨#[47, 42]⟩ ++ a0 ++ ⟨#[47, 42]⟩ ++ a0 ++ ⟨#[42, 47]⟩))) ∧ Below w.heap.size w w') := fun w => zz_any _ w (by simp [size_mk]; omega)
        generalize zz (⟨#[47, 42]⟩ ++ a0) = r3 at *
        generalize zz (⟨#[47, 42, 47, 42]⟩ ++ a0 ++ ⟨#[42, 47]⟩) = r4 at *
        generalize zz (⟨#[47, 42]⟩ ++ a0 ++ ⟨#[47, 42]⟩ ++ a0 ++ ⟨#[42, 47]⟩) = r5 at *
        go_wp2_with fail
        refine (HC3.out _).mono ?_
        rintro e w3 ⟨rfl, b3⟩
        have b2 := b2.trans (b3.mono b2.size)
        clear b3
        go_wp2_with fail
        refine (HC4.out _).mono ?_
        rintro e w3 ⟨rfl, b3⟩
        have b2 := b2.trans (b3.mono b2.size)
        clear b3
        go_wp2_with fail
        refine (HC5.out _).mono ?_
        rintro e w3 ⟨rfl, b3⟩
        have b2 := b2.trans (b3.mono b2.size)
        clear b3
        go_wp2_with fail
        go_ret
        exact ⟨rfl, b2⟩
      · go_wp2_with fail
        go_ret
        exact ⟨rfl, b2⟩
    · go_wp2_with fail
      refine (has_any a0 ⟨#[42]⟩ _ w0 (by decide)).mono ?_
      rintro e w3 ⟨rfl, b3⟩
      have b2 := b2.trans (b3.mono b2.size)
      clear b3
      cases h2 : hasIn a0.data.toList [42]
      · have z3 := end3 a0 h2
        have z4 := end4 a0 h2
        have z5 := end5 a0 h2
        have HC3 : Aside (∀ w, Calls Try.prog 7 #[.string (⟨#[47, 42]⟩ ++ a0)] w fun e w' => e = .returned (.string (zz (⟨#[47, 42]⟩ ++ a0))) ∧ Below w.heap.size w w') := fun w => zz_any _ w (by simp [size_mk]; omega)
        have HC4 : Aside (∀ w, Calls Try.prog 7 #[.string (⟨#[47, 42, 47, 42]⟩ ++ a0 ++ ⟨#[42, 47]⟩)] w fun e w' => e = .returned (.string (zz (⟨#[47, 42, 47, 42]⟩ ++ a0 ++ ⟨#[42, 47]⟩))) ∧ Below w.heap.size w w') := fun w => zz_any _ w (by simp [size_mk]; omega)
        have HC5 : Aside (∀ w, Calls Try.prog 7 #[.string (⟨#[47, 42]⟩ ++ a0 ++ ⟨#[47, 42]⟩ ++ a0 ++ ⟨#[42, 47]⟩)] w fun e w' => e = .returned (.string (zz (⟨#[47, 42]⟩ ++ a0 ++ ⟨#[47, 42]⟩ ++ a0 ++ ⟨#[42, 47]⟩))) ∧ Below w.heap.size w w') := fun w => zz_any _ w (by simp [size_mk]; omega)
        generalize zz (⟨#[47, 42]⟩ ++ a0) = r3 at *
        generalize zz (⟨#[47, 42, 47, 42]⟩ ++ a0 ++ ⟨#[42, 47]⟩) = r4 at *
        generalize zz (⟨#[47, 42]⟩ ++ a0 ++ ⟨#[47, 42]⟩ ++ a0 ++ ⟨#[42, 47]⟩) = r5 at *
        go_wp2_with fail
        refine (HC3.out _).mono ?_
        rintro e w3 ⟨rfl, b3⟩
        have b2 := b2.trans (b3.mono b2.size)
        clear b3
        go_wp2_with fail
        refine (HC4.out _).mono ?_
        rintro e w3 ⟨rfl, b3⟩
        have b2 := b2.trans (b3.mono b2.size)
        clear b3
        go_wp2_with fail
        refine (HC5.out _).mono ?_
        rintro e w3 ⟨rfl, b3⟩
        have b2 := b2.trans (b3.mono b2.size)
        clear b3
        go_wp2_with fail
        go_ret
        exact ⟨rfl, b2⟩
      · go_wp2_with fail
        go_ret
        exact ⟨rfl, b2⟩
  · rw [decide_eq_false h] at hb6
    have HB : Aside (∀ w, Calls Try.prog 11 #[.string a0] w fun e w' => e = .returned (.bool false) ∧ w' = w) := hb6
    clear hb6
    go_enter Try.func5, Try.ntmps5
    go_wp2_with fail
    refine (HB.out _).mono ?_
    rintro e w1 ⟨rfl, rfl⟩
    go_wp2_with fail
    go_ret
    exact ⟨rfl, Below.refl _ _⟩

set_option maxRecDepth 100000 in
theorem lifted (os : Os) (started : os.Started) (H : Type) (enc : TypeId × Value → H) :
    ReturnsInHanded {} Try.checked os 5 .any (Rows.fnSkipSpaceUnclosedCommentRunsToTheEndSpec.pre6 enc Try.prog Try.f5 Rows.fnSkipSpaceUnclosedCommentRunsToTheEndRow.domain false) (Rows.fnSkipSpaceUnclosedCommentRunsToTheEndSpec.post enc Try.prog Try.f5 false true false false) := by
  refine returnsInHanded_of_change (C := Try.checked) own started (by kernel_rfl) Try.func5
    (ChangeSpec.witness6 (enc := enc) (C := Try.checked) false ⟨#[], #[.string ByteArray.empty], []⟩ 8 (by kernel_rfl) (by kernel_rfl) (by kernel_rfl) (by kernel_rfl)) ?_
  intro W base args ds gs before hval0 hW hcnd _
  have hval : ∀ (j : Nat) t v, Try.f5.params[j]? = some t → args[j]? = some v → Value.okWide Try.prog W .any base t v := hval0
  have hW' := hW
  obtain ⟨p, q, hA0, hV, rfl, hfz, hnd⟩ := hW
  have hA : DataW.TrodAll enc Try.prog W 0 (fun _ => true) true Try.f5.params.toList args.toList ds p := hA0
  rw [Try.params5] at hA hval
  obtain ⟨v0, vs0, d0, ds0, p0, q0, hargs, rfl, rfl, h0, r0⟩ := trodAll_cons hA
  obtain ⟨rfl, rfl, rfl⟩ := trodAll_nil r0
  obtain rfl : args = #[v0] := by cases args; simp_all
  obtain ⟨rfl, rfl⟩ := trodVars_none hV
  obtain ⟨a0, rfl, rfl, rfl, w0⟩ := open_string Try.underlying9 (hval 0 9 v0 rfl rfl) h0
  clear hA0 hval0
  simp only [List.append_nil] at hW'
  refine (walk a0 w0 W).mono fun e W' ⟨he, bel⟩ => ?_
  subst he
  exact ⟨_, rfl, _, _, _, [], [], [], hW', trodAll_mk1 (shut_bool Try.underlying4 _), (trodAll_cons_mk (shut_string Try.underlying9 w0) trodAll_mk0), rfl, bel.frame _, fun h => by cases h⟩

theorem over : Rows.fnSkipSpaceUnclosedCommentRunsToTheEndRow.holds Try.pinned (OpenSpec.ofChange Rows.fnSkipSpaceUnclosedCommentRunsToTheEndSpec) :=
  OpenClaim.holds_of_wide 5 Try.f5 rfl rfl rfl rfl rfl rfl rfl ⟨rfl, rfl, rfl, rfl, rfl⟩ rfl rfl rfl rfl rfl (by kernel_rfl) Try.func5 (by kernel_rfl)
    (of_decide_eq_true (by kernel_rfl)) (by unfold Func.isWrapper; first | (rw [if_pos (by decide +kernel)]; kernel_rfl) | (rw [if_neg (by decide +kernel)]; exact ⟨rfl, rfl⟩))
    (fun os started H enc _ => lifted os started H enc)

/-- THE STATEMENT -/
theorem proved : Rows.FnSkipSpaceUnclosedCommentRunsToTheEndSaid :=
  over
#print axioms proved
end Go.Proofs.Qxb6001149a.fnSkipSpaceUnclosedCommentRunsToTheEnd
