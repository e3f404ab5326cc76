import Derived.Test.Qxb6001149aRows
import Derived.Test.Qxb6001149aCalls
import Derived.WalkKit
import Derived.ProofKit
import Derived.OpenShut
import Derived.ShutString
import Derived.Carry
namespace Go.Proofs.Qxb6001149a.fnSkipSpaceSeesThroughClosedComments
open Go.ChangeShapes Go.WideShapes Go.ChangeAt Go.RowKit
open Go.ChangeMaps (open_string shut_string)
set_option linter.unusedVariables false

theorem own : ownKnob Try.prog.godebug = none := by kernel_rfl

theorem size_mk (a : Array UInt8) : (⟨a⟩ : ByteArray).size = a.size := rfl

theorem hasIn_no {c : List UInt8} {set : List UInt8} (h : hasIn c set = false) : ∀ b ∈ c, ∀ x ∈ set, b ≠ x := by
  intro b hb x hx e
  unfold hasIn at h
  have := List.any_eq_false.1 h b hb
  rw [e] at this
  simp [hx] at this

theorem zz_same {a s : ByteArray} (h : Pl.sk a.data.toList = Pl.sk s.data.toList) : zz a = zz s := eq_of_data (by rw [zz_data, zz_data, h])

theorem same1 (c s : ByteArray) (h1 : ∀ b ∈ c.data.toList, b ≠ 10 ∧ b ≠ 13) (h2 : ∀ b ∈ c.data.toList, b ≠ 47 ∧ b ≠ 42) : zz (⟨#[32, 9, 13, 10, 12]⟩ ++ s) = zz s :=
  zz_same (by
    simp only [ByteArray.data_append, Array.toList_append]
    exact Pl.sk_blanks _)
theorem same2 (c s : ByteArray) (h1 : ∀ b ∈ c.data.toList, b ≠ 10 ∧ b ≠ 13) (h2 : ∀ b ∈ c.data.toList, b ≠ 47 ∧ b ≠ 42) : zz (⟨#[45, 45]⟩ ++ c ++ ⟨#[10]⟩ ++ s) = zz s :=
  zz_same (by
    simp only [ByteArray.data_append, Array.toList_append, List.append_assoc]
    exact Pl.sk_dash_nl _ _ 10 (by decide) h1)
theorem same3 (c s : ByteArray) (h1 : ∀ b ∈ c.data.toList, b ≠ 10 ∧ b ≠ 13) (h2 : ∀ b ∈ c.data.toList, b ≠ 47 ∧ b ≠ 42) : zz (⟨#[45, 45]⟩ ++ c ++ ⟨#[13]⟩ ++ s) = zz s :=
  zz_same (by
    simp only [ByteArray.data_append, Array.toList_append, List.append_assoc]
    exact Pl.sk_dash_nl _ _ 13 (by decide) h1)
theorem same4 (c s : ByteArray) (h1 : ∀ b ∈ c.data.toList, b ≠ 10 ∧ b ≠ 13) (h2 : ∀ b ∈ c.data.toList, b ≠ 47 ∧ b ≠ 42) : zz (⟨#[47, 42]⟩ ++ c ++ ⟨#[42, 47]⟩ ++ s) = zz s :=
  zz_same (by
    simp only [ByteArray.data_append, Array.toList_append, List.append_assoc]
    exact Pl.sk_closed _ _ h2)
theorem same5 (c s : ByteArray) (h1 : ∀ b ∈ c.data.toList, b ≠ 10 ∧ b ≠ 13) (h2 : ∀ b ∈ c.data.toList, b ≠ 47 ∧ b ≠ 42) : zz (⟨#[47, 42, 47, 42]⟩ ++ c ++ ⟨#[42, 47]⟩ ++ c ++ ⟨#[42, 47]⟩ ++ s) = zz s :=
  zz_same (by
    simp only [ByteArray.data_append, Array.toList_append, List.append_assoc]
    exact Pl.sk_nested _ _ h2)
theorem same6 (c s : ByteArray) (h1 : ∀ b ∈ c.data.toList, b ≠ 10 ∧ b ≠ 13) (h2 : ∀ b ∈ c.data.toList, b ≠ 47 ∧ b ≠ 42) : zz (⟨#[32, 45, 45]⟩ ++ c ++ ⟨#[10, 9, 47, 42]⟩ ++ c ++ ⟨#[42, 47, 32, 47, 42, 42, 47]⟩ ++ s) = zz s :=
  zz_same (by
    simp only [ByteArray.data_append, Array.toList_append, List.append_assoc]
    exact Pl.sk_mixed _ _ h1 h2)

/-- A call of ZZSkipSpace at a string that is skipped to the same place as s. -/
theorem call_same (a s : ByteArray) (h : zz a = zz s) (hs : a.size < 4294967281) (w : World) :
    Calls Try.prog 7 #[.string a] w fun e w' => e = .returned (.string (zz s)) ∧ Below w.heap.size w w' := by
  rw [← h]
  exact zz_any a w hs

set_option maxRecDepth 100000 in
set_option maxHeartbeats 1000000 in
theorem walk (a0 a1 : ByteArray) (w0 : a0.size ≤ maxLen) (w1 : a1.size ≤ maxLen) (w : World) :
    Calls Try.prog 4 #[.string a0, .string a1] w fun e w' => e = .returned (.bool true) ∧ Below w.heap.size w w' := by
  have hb6 := fun w => bytes9 a0 a1 w w0 w1
  by_cases h : a0.size + a1.size ≤ 1048576
  · rw [decide_eq_true h] at hb6
    have HB : Aside (∀ w, Calls Try.prog 9 #[.string a0, .string a1] w fun e w' => e = .returned (.bool true) ∧ w' = w) := hb6
    clear hb6
    by_cases hc1 : decide ((262144 : Int) < (a0.size : Int)) = true
    · go_enter Try.func4, Try.ntmps4
      go_wp2_with fail
      refine (HB.out _).mono ?_
      rintro e w1 ⟨rfl, rfl⟩
      go_wp2_with fail
      go_ret
      exact ⟨rfl, Below.refl _ _⟩
    have hc1 : decide ((262144 : Int) < (a0.size : Int)) = false := by simpa using hc1
    by_cases hc2 : decide ((262144 : Int) < (a1.size : Int)) = true
    · go_enter Try.func4, Try.ntmps4
      go_wp2_with fail
      refine (HB.out _).mono ?_
      rintro e w1 ⟨rfl, rfl⟩
      go_wp2_with fail
      go_ret
      exact ⟨rfl, Below.refl _ _⟩
    have hc2 : decide ((262144 : Int) < (a1.size : Int)) = false := by simpa using hc2
    go_enter Try.func4, Try.ntmps4
    go_wp2_with fail
    refine (HB.out _).mono ?_
    rintro e w1 ⟨rfl, rfl⟩
    go_wp2_with fail
    refine (has_any a0 ⟨#[10, 13, 42, 47]⟩ _ w0 (by decide)).mono ?_
    rintro e w2 ⟨rfl, b2⟩
    clear HB
    cases h1 : hasIn a0.data.toList [10, 13, 42, 47]
    · have n1 : ∀ b ∈ a0.data.toList, b ≠ 10 ∧ b ≠ 13 := fun b hb => ⟨hasIn_no h1 b hb 10 (by simp), hasIn_no h1 b hb 13 (by simp)⟩
      have n2 : ∀ b ∈ a0.data.toList, b ≠ 47 ∧ b ≠ 42 := fun b hb => ⟨hasIn_no h1 b hb 47 (by simp), hasIn_no h1 b hb 42 (by simp)⟩
      have HC0 : Aside (∀ w, Calls Try.prog 7 #[.string a1] w fun e w' => e = .returned (.string (zz a1)) ∧ Below w.heap.size w w') := fun w => zz_any _ w (by omega)
      have HC1 : Aside (∀ w, Calls Try.prog 7 #[.string (⟨#[32, 9, 13, 10, 12]⟩ ++ a1)] w fun e w' => e = .returned (.string (zz a1)) ∧ Below w.heap.size w w') := fun w => call_same _ _ (same1 a0 a1 n1 n2) (by simp [size_mk]; omega) w
      have HC2 : Aside (∀ w, Calls Try.prog 7 #[.string (⟨#[45, 45]⟩ ++ a0 ++ ⟨#[10]⟩ ++ a1)] w fun e w' => e = .returned (.string (zz a1)) ∧ Below w.heap.size w w') := fun w => call_same _ _ (same2 a0 a1 n1 n2) (by simp [size_mk]; omega) w
      have HC3 : Aside (∀ w, Calls Try.prog 7 #[.string (⟨#[45, 45]⟩ ++ a0 ++ ⟨#[13]⟩ ++ a1)] w fun e w' => e = .returned (.string (zz a1)) ∧ Below w.heap.size w w') := fun w => call_same _ _ (same3 a0 a1 n1 n2) (by simp [size_mk]; omega) w
      have HC4 : Aside (∀ w, Calls Try.prog 7 #[.string (⟨#[47, 42]⟩ ++ a0 ++ ⟨#[42, 47]⟩ ++ a1)] w fun e w' => e = .returned (.string (zz a1)) ∧ Below w.heap.size w w') := fun w => call_same _ _ (same4 a0 a1 n1 n2) (by simp [size_mk]; omega) w
      have HC5 : Aside (∀ w, Calls Try.prog 7 #[.string (⟨#[47, 42, 47, 42]⟩ ++ a0 ++ ⟨#[42, 47]⟩ ++ a0 ++ ⟨#[42, 47]⟩ ++ a1)] w fun e w' => e = .returned (.string (zz a1)) ∧ Below w.heap.size w w') := fun w => call_same _ _ (same5 a0 a1 n1 n2) (by simp [size_mk]; omega) w
      have HC6 : Aside (∀ w, Calls Try.prog 7 #[.string (⟨#[32, 45, 45]⟩ ++ a0 ++ ⟨#[10, 9, 47, 42]⟩ ++ a0 ++ ⟨#[42, 47, 32, 47, 42, 42, 47]⟩ ++ a1)] w fun e w' => e = .returned (.string (zz a1)) ∧ Below w.heap.size w w') := fun w => call_same _ _ (same6 a0 a1 n1 n2) (by simp [size_mk]; omega) w
      clear n1 n2
      generalize zz a1 = r at *
      go_wp2_with fail
      refine (HC0.out _).mono ?_
      rintro e w3 ⟨rfl, b3⟩
      have b2 := b2.trans (b3.mono b2.size)
      clear b3
      go_wp2_with fail
      refine (HC1.out _).mono ?_
      rintro e w3 ⟨rfl, b3⟩
      have b2 := b2.trans (b3.mono b2.size)
      clear b3
      go_wp2_with fail
      refine (HC2.out _).mono ?_
      rintro e w3 ⟨rfl, b3⟩
      have b2 := b2.trans (b3.mono b2.size)
      clear b3
      go_wp2_with fail
      refine (HC3.out _).mono ?_
      rintro e w3 ⟨rfl, b3⟩
      have b2 := b2.trans (b3.mono b2.size)
      clear b3
      go_wp2_with fail
      refine (HC4.out _).mono ?_
      rintro e w3 ⟨rfl, b3⟩
      have b2 := b2.trans (b3.mono b2.size)
      clear b3
      go_wp2_with fail
      refine (HC5.out _).mono ?_
      rintro e w3 ⟨rfl, b3⟩
      have b2 := b2.trans (b3.mono b2.size)
      clear b3
      go_wp2_with fail
      refine (HC6.out _).mono ?_
      rintro e w3 ⟨rfl, b3⟩
      have b2 := b2.trans (b3.mono b2.size)
      clear b3
      go_wp2_with fail
      go_ret
      exact ⟨rfl, b2⟩
    · go_wp2_with fail
      go_ret
      exact ⟨rfl, b2⟩
  · rw [decide_eq_false h] at hb6
    have HB : Aside (∀ w, Calls Try.prog 9 #[.string a0, .string a1] w fun e w' => e = .returned (.bool false) ∧ w' = w) := hb6
    clear hb6
    go_enter Try.func4, Try.ntmps4
    go_wp2_with fail
    refine (HB.out _).mono ?_
    rintro e w1 ⟨rfl, rfl⟩
    go_wp2_with fail
    go_ret
    exact ⟨rfl, Below.refl _ _⟩

set_option maxRecDepth 100000 in
theorem lifted (os : Os) (started : os.Started) (H : Type) (enc : TypeId × Value → H) :
    ReturnsInHanded {} Try.checked os 4 .any (Rows.fnSkipSpaceSeesThroughClosedCommentsSpec.pre6 enc Try.prog Try.f4 Rows.fnSkipSpaceSeesThroughClosedCommentsRow.domain false) (Rows.fnSkipSpaceSeesThroughClosedCommentsSpec.post enc Try.prog Try.f4 false true false false) := by
  refine returnsInHanded_of_change (C := Try.checked) own started (by kernel_rfl) Try.func4
    (ChangeSpec.witness6 (enc := enc) (C := Try.checked) false ⟨#[], #[.string ByteArray.empty, .string ByteArray.empty], []⟩ 8 (by kernel_rfl) (by kernel_rfl) (by kernel_rfl) (by kernel_rfl)) ?_
  intro W base args ds gs before hval0 hW hcnd _
  have hval : ∀ (j : Nat) t v, Try.f4.params[j]? = some t → args[j]? = some v → Value.okWide Try.prog W .any base t v := hval0
  have hW' := hW
  obtain ⟨p, q, hA0, hV, rfl, hfz, hnd⟩ := hW
  have hA : DataW.TrodAll enc Try.prog W 0 (fun _ => true) true Try.f4.params.toList args.toList ds p := hA0
  rw [Try.params4] at hA hval
  obtain ⟨v0, vs0, d0, ds0, p0, q0, hargs, rfl, rfl, h0, r0⟩ := trodAll_cons hA
  obtain ⟨v1, vs1, d1, ds1, p1, q1, rfl, rfl, rfl, h1, r1⟩ := trodAll_cons r0
  obtain ⟨rfl, rfl, rfl⟩ := trodAll_nil r1
  obtain rfl : args = #[v0, v1] := by cases args; simp_all
  obtain ⟨rfl, rfl⟩ := trodVars_none hV
  obtain ⟨a0, rfl, rfl, rfl, w0⟩ := open_string Try.underlying9 (hval 0 9 v0 rfl rfl) h0
  obtain ⟨a1, rfl, rfl, rfl, w1⟩ := open_string Try.underlying9 (hval 1 9 v1 rfl rfl) h1
  clear hA0 hval0
  simp only [List.append_nil] at hW'
  refine (walk a0 a1 w0 w1 W).mono fun e W' ⟨he, bel⟩ => ?_
  subst he
  exact ⟨_, rfl, _, _, _, [], [], [], hW', trodAll_mk1 (shut_bool Try.underlying4 _), (trodAll_cons_mk (shut_string Try.underlying9 w0) (trodAll_cons_mk (shut_string Try.underlying9 w1) trodAll_mk0)), rfl, bel.frame _, fun h => by cases h⟩

theorem over : Rows.fnSkipSpaceSeesThroughClosedCommentsRow.holds Try.pinned (OpenSpec.ofChange Rows.fnSkipSpaceSeesThroughClosedCommentsSpec) :=
  OpenClaim.holds_of_wide 4 Try.f4 rfl rfl rfl rfl rfl rfl rfl ⟨rfl, rfl, rfl, rfl, rfl⟩ rfl rfl rfl rfl rfl (by kernel_rfl) Try.func4 (by kernel_rfl)
    (of_decide_eq_true (by kernel_rfl)) (by unfold Func.isWrapper; first | (rw [if_pos (by decide +kernel)]; kernel_rfl) | (rw [if_neg (by decide +kernel)]; exact ⟨rfl, rfl⟩))
    (fun os started H enc _ => lifted os started H enc)

/-- THE STATEMENT -/
theorem proved : Rows.FnSkipSpaceSeesThroughClosedCommentsSaid :=
  over
#print axioms proved
end Go.Proofs.Qxb6001149a.fnSkipSpaceSeesThroughClosedComments
