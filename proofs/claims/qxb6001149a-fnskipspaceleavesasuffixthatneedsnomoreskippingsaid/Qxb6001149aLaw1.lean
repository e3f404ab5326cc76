import Derived.Test.Qxb6001149aRows
import Derived.Test.Qxb6001149aCalls
import Derived.WalkKit
import Derived.ProofKit
import Derived.OpenShut
import Derived.ShutString
import Derived.Carry
namespace Go.Proofs.Qxb6001149a.fnSkipSpaceLeavesASuffixThatNeedsNoMoreSkipping
open Go.ChangeShapes Go.WideShapes Go.ChangeAt Go.RowKit
open Go.ChangeMaps (open_string shut_string)
set_option linter.unusedVariables false

theorem own : ownKnob Try.prog.godebug = none := by kernel_rfl

theorem zz_ext (s : ByteArray) : s.extract (s.size - (zz s).size) s.size = zz s := by
  refine eq_of_data ?_
  rw [ext_drop, zz_data, Lib.size_eq, Lib.size_eq, zz_data]
  exact Pl.sk_drop _
theorem zz_zz (s : ByteArray) : zz (zz s) = zz s := eq_of_data (by rw [zz_data, zz_data, Pl.sk_sk])

set_option maxRecDepth 100000 in
set_option maxHeartbeats 1000000 in
theorem walk (a0 : ByteArray) (w0 : a0.size ≤ maxLen) (w : World) :
    Calls Try.prog 3 #[.string a0] w fun e w' => e = .returned (.bool true) ∧ Below w.heap.size w w' := by
  have hb6 := fun w => bytes6 a0 w w0
  by_cases h : a0.size ≤ 1048576
  · rw [decide_eq_true h] at hb6
    have h1 := zz_size a0
    have he : a0.extract (a0.size - (zz a0).size) a0.size = zz a0 := zz_ext a0
    have HE : Aside (a0.extract (a0.size - (zz a0).size) a0.size = zz a0) := he
    have HZ : Aside (zz (zz a0) = zz a0) := zz_zz a0
    have HT : Aside (Pl.still (zz a0).data.toList) := Pl.sk_still _
    have hz := fun w => zz_any a0 w (by omega)
    have hz2 := fun w => zz_any (zz a0) w (by omega)
    rw [HZ.out] at hz2
    have HB : Aside (∀ w, Calls Try.prog 6 #[.string a0] w fun e w' => e = .returned (.bool true) ∧ w' = w) := hb6
    have HZ1 : Aside (∀ w, Calls Try.prog 7 #[.string a0] w fun e w' => e = .returned (.string (zz a0)) ∧ Below w.heap.size w w') := hz
    have HZ2 : Aside (∀ w, Calls Try.prog 7 #[.string (zz a0)] w fun e w' => e = .returned (.string (zz a0)) ∧ Below w.heap.size w w') := hz2
    clear hb6 hz hz2 he
    generalize zz a0 = r at *
    go_enter Try.func3, Try.ntmps3
    go_wp2_with fail
    refine (HB.out _).mono ?_
    rintro e w1 ⟨rfl, rfl⟩
    go_wp2_with fail
    refine (HZ1.out _).mono ?_
    rintro e w1 ⟨rfl, hbel⟩
    have hq : ((a0.extract (a0.size - r.size) a0.size).toList == r.toList) = true := by rw [HE.out]; simp
    go_wp2_with fail
    refine (HZ2.out _).mono ?_
    rintro e w2 ⟨rfl, hbel2⟩
    have hbel := hbel.trans (hbel2.mono hbel.size)
    clear hq HZ1 HZ2 HE HZ HB
    rcases HT.out with hn | ⟨a, t, ht, hb, p1, p2⟩
    · have hem := empty_toList hn
      clear hn
      go_wp2_with fail
      go_ret
      exact ⟨rfl, hbel⟩
    · have hem := cons_toList ht
      have hz : 0 < r.size := by have := cons_size ht; omega
      have hzi : (0 : Int) < (r.size : Int) := by omega
      have hx := cons_zero ht hz
      have f1 : 2 ≤ r.size → ((r.extract 0 2).toList == [45, 45]) = false := fun h2 => by
        have := Lib.hasPrefix_of_take r.data.toList [45, 45]
        rw [p1, decide_eq_true (by rw [← Lib.size_eq]; exact h2)] at this
        rw [Lib.extract_toList]
        exact this
      have f2 : 2 ≤ r.size → ((r.extract 0 2).toList == [47, 42]) = false := fun h2 => by
        have := Lib.hasPrefix_of_take r.data.toList [47, 42]
        rw [p2, decide_eq_true (by rw [← Lib.size_eq]; exact h2)] at this
        rw [Lib.extract_toList]
        exact this
      clear p1 p2 ht HT
      have HB := fun w => blank_no a w hb
      have HB' : Aside (∀ w, Calls Try.prog 8 #[.int .u8 a.toNat] w fun e w' => e = .returned (.bool false) ∧ w' = w) := HB
      clear HB hb
      go_wp2_with fail
      refine (HB'.out _).mono ?_
      rintro e w3 ⟨rfl, rfl⟩
      by_cases h2 : 2 ≤ r.size
      · have h2i : decide ((2 : Int) ≤ (r.size : Int)) = true := decide_eq_true (by omega)
        have g1 := f1 h2
        have g2 := f2 h2
        clear f1 f2
        go_wp2_with fail
        go_ret
        exact ⟨rfl, hbel⟩
      · have h2i : decide ((2 : Int) ≤ (r.size : Int)) = false := decide_eq_false (by omega)
        clear f1 f2
        go_wp2_with fail
        go_ret
        exact ⟨rfl, hbel⟩
  · rw [decide_eq_false h] at hb6
    have HB : Aside (∀ w, Calls Try.prog 6 #[.string a0] w fun e w' => e = .returned (.bool false) ∧ w' = w) := hb6
    clear hb6
    go_enter Try.func3, Try.ntmps3
    go_wp2_with fail
    refine (HB.out _).mono ?_
    rintro e w1 ⟨rfl, rfl⟩
    go_wp2_with fail
    go_ret
    exact ⟨rfl, Below.refl _ _⟩

set_option maxRecDepth 100000 in
theorem lifted (os : Os) (started : os.Started) (H : Type) (enc : TypeId × Value → H) :
    ReturnsInHanded {} Try.checked os 3 .any (Rows.fnSkipSpaceLeavesASuffixThatNeedsNoMoreSkippingSpec.pre6 enc Try.prog Try.f3 Rows.fnSkipSpaceLeavesASuffixThatNeedsNoMoreSkippingRow.domain false) (Rows.fnSkipSpaceLeavesASuffixThatNeedsNoMoreSkippingSpec.post enc Try.prog Try.f3 false true false false) := by
  refine returnsInHanded_of_change (C := Try.checked) own started (by kernel_rfl) Try.func3
    (ChangeSpec.witness6 (enc := enc) (C := Try.checked) false ⟨#[], #[.string ByteArray.empty], []⟩ 8 (by kernel_rfl) (by kernel_rfl) (by kernel_rfl) (by kernel_rfl)) ?_
  intro W base args ds gs before hval0 hW hcnd _
  have hval : ∀ (j : Nat) t v, Try.f3.params[j]? = some t → args[j]? = some v → Value.okWide Try.prog W .any base t v := hval0
  have hW' := hW
  obtain ⟨p, q, hA0, hV, rfl, hfz, hnd⟩ := hW
  have hA : DataW.TrodAll enc Try.prog W 0 (fun _ => true) true Try.f3.params.toList args.toList ds p := hA0
  rw [Try.params3] at hA hval
  obtain ⟨v0, vs0, d0, ds0, p0, q0, hargs, rfl, rfl, h0, r0⟩ := trodAll_cons hA
  obtain ⟨rfl, rfl, rfl⟩ := trodAll_nil r0
  obtain rfl : args = #[v0] := by cases args; simp_all
  obtain ⟨rfl, rfl⟩ := trodVars_none hV
  obtain ⟨a0, rfl, rfl, rfl, w0⟩ := open_string Try.underlying9 (hval 0 9 v0 rfl rfl) h0
  clear hA0 hval0
  simp only [List.append_nil] at hW'
  refine (walk a0 w0 W).mono fun e W' ⟨he, bel⟩ => ?_
  subst he
  exact ⟨_, rfl, _, _, _, [], [], [], hW', trodAll_mk1 (shut_bool Try.underlying4 _), (trodAll_cons_mk (shut_string Try.underlying9 w0) trodAll_mk0), rfl, bel.frame _, fun h => by cases h⟩

theorem over : Rows.fnSkipSpaceLeavesASuffixThatNeedsNoMoreSkippingRow.holds Try.pinned (OpenSpec.ofChange Rows.fnSkipSpaceLeavesASuffixThatNeedsNoMoreSkippingSpec) :=
  OpenClaim.holds_of_wide 3 Try.f3 rfl rfl rfl rfl rfl rfl rfl ⟨rfl, rfl, rfl, rfl, rfl⟩ rfl rfl rfl rfl rfl (by kernel_rfl) Try.func3 (by kernel_rfl)
    (of_decide_eq_true (by kernel_rfl)) (by unfold Func.isWrapper; first | (rw [if_pos (by decide +kernel)]; kernel_rfl) | (rw [if_neg (by decide +kernel)]; exact ⟨rfl, rfl⟩))
    (fun os started H enc _ => lifted os started H enc)

/-- THE STATEMENT -/
theorem proved : Rows.FnSkipSpaceLeavesASuffixThatNeedsNoMoreSkippingSaid :=
  over
#print axioms proved
end Go.Proofs.Qxb6001149a.fnSkipSpaceLeavesASuffixThatNeedsNoMoreSkipping
