import Derived.Test.Qxb6001149aSkip
namespace Go.Proofs.Qxb6001149a
open Go.RowKit

/-- What ZZSkipSpace leaves of a string. -/
def zz (s : ByteArray) : ByteArray := ⟨(Pl.sk s.data.toList).toArray⟩
theorem zz_data (s : ByteArray) : (zz s).data.toList = Pl.sk s.data.toList := rfl
theorem zz_size (s : ByteArray) : (zz s).size ≤ s.size := by rw [Lib.size_eq, Lib.size_eq, zz_data]; exact Pl.sk_le _
theorem eq_of_data {a b : ByteArray} (h : a.data.toList = b.data.toList) : a = b := by
  rw [← Lib.mk_data a, ← Lib.mk_data b, h]

set_option maxRecDepth 100000 in
set_option maxHeartbeats 1000000 in
theorem zz_any (s : ByteArray) (w : World) (hs : s.size < 4294967281) :
    Calls Try.prog 7 #[.string s] w fun e w' => e = .returned (.string (zz s)) ∧ Below w.heap.size w w' := by
  go_enter Try.func7, Try.ntmps7
  go_wp2_with fail
  have hsl : s.data.toList.length < 4294967281 := by rw [← Lib.size_eq]; exact hs
  refine (skip_any w.heap.size s _ (by simp) (by simp) (by simp) hsl).mono ?_
  rintro e w1 ⟨rfl, r, hr, hH⟩
  obtain rfl : r = zz s := eq_of_data (by rw [hr, zz_data])
  have hc := hH.cell
  have hbel : Below w.heap.size w w1 := ((Below.refl _ _).alloc (Nat.le_refl _) _).trans hH.below
  clear hr hH hsl
  go_wp2_with fail
  go_ret
  exact ⟨rfl, hbel⟩

def hasIn (c set : List UInt8) : Bool := c.any fun b => set.contains b

set_option maxRecDepth 100000 in
set_option maxHeartbeats 1000000 in
theorem blank_no (x : UInt8) (w : World) (hx : Pl.blk x = false) :
    Calls Try.prog 8 #[.int .u8 x.toNat] w fun e w' => e = .returned (.bool false) ∧ w' = w := by
  have key : x ≠ 32 ∧ x ≠ 9 ∧ x ≠ 10 ∧ x ≠ 13 ∧ x ≠ 12 := by
    refine ⟨?_, ?_, ?_, ?_, ?_⟩ <;> (rintro rfl; revert hx; decide)
  have tn : ∀ (y : UInt8), x ≠ y → ((x.toNat : Int) == (y.toNat : Int)) = false := fun y h => beq_eq_false_iff_ne.2 fun e => h (UInt8.toNat_inj.1 (by omega))
  have k1 : ((x.toNat : Int) == 32) = false := tn 32 key.1
  have k2 : ((x.toNat : Int) == 9) = false := tn 9 key.2.1
  have k3 : ((x.toNat : Int) == 10) = false := tn 10 key.2.2.1
  have k4 : ((x.toNat : Int) == 13) = false := tn 13 key.2.2.2.1
  have k5 : ((x.toNat : Int) == 12) = false := tn 12 key.2.2.2.2
  clear key tn hx
  go_enter Try.func8, Try.ntmps8
  go_wp2_with fail
  go_ret
  exact ⟨rfl, rfl⟩

set_option maxRecDepth 100000 in
set_option maxHeartbeats 1000000 in
theorem bytes6 (s : ByteArray) (w : World) (hs : s.size ≤ maxLen) :
    Calls Try.prog 6 #[.string s] w fun e w' => e = .returned (.bool (decide (s.size ≤ 1048576))) ∧ w' = w := by
  unfold maxLen at hs
  by_cases h : s.size ≤ 1048576
  · rw [decide_eq_true h]
    go_enter Try.func6, Try.ntmps6
    go_wp2
    go_ret
    exact ⟨rfl, rfl⟩
  · rw [decide_eq_false h]
    go_enter Try.func6, Try.ntmps6
    go_wp2
    go_ret
    exact ⟨rfl, rfl⟩

set_option maxRecDepth 100000 in
set_option maxHeartbeats 1000000 in
theorem bytes11 (s : ByteArray) (w : World) (hs : s.size ≤ maxLen) :
    Calls Try.prog 11 #[.string s] w fun e w' => e = .returned (.bool (decide (s.size ≤ 1048576))) ∧ w' = w := by
  unfold maxLen at hs
  by_cases h : s.size ≤ 1048576
  · rw [decide_eq_true h]
    go_enter Try.func11, Try.ntmps11
    go_wp2
    go_ret
    exact ⟨rfl, rfl⟩
  · rw [decide_eq_false h]
    go_enter Try.func11, Try.ntmps11
    go_wp2
    go_ret
    exact ⟨rfl, rfl⟩

set_option maxRecDepth 100000 in
set_option maxHeartbeats 1000000 in
theorem bytes9 (c s : ByteArray) (w : World) (hc : c.size ≤ maxLen) (hs : s.size ≤ maxLen) :
    Calls Try.prog 9 #[.string c, .string s] w fun e w' => e = .returned (.bool (decide (c.size + s.size ≤ 1048576))) ∧ w' = w := by
  unfold maxLen at hs hc
  by_cases h : c.size + s.size ≤ 1048576
  · rw [decide_eq_true h]
    go_enter Try.func9, Try.ntmps9
    go_wp2
    go_ret
    exact ⟨rfl, rfl⟩
  · rw [decide_eq_false h]
    by_cases h1 : c.size ≤ 1048576
    · by_cases h2 : s.size ≤ 1048576
      · go_enter Try.func9, Try.ntmps9
        go_wp2
        go_ret
        exact ⟨rfl, rfl⟩
      · go_enter Try.func9, Try.ntmps9
        go_wp2
        go_ret
        exact ⟨rfl, rfl⟩
    · go_enter Try.func9, Try.ntmps9
      go_wp2
      go_ret
      exact ⟨rfl, rfl⟩

theorem hasIn_step (c set : List UInt8) (i : Nat) (hi : i < c.length) (h : hasIn (c.take i) set = false) (h2 : set.contains (c[i]'hi) = false) : hasIn (c.take (i + 1)) set = false := by
  unfold hasIn at *
  rw [List.take_succ_eq_append_getElem hi, List.any_append, h]
  simpa using h2

theorem hasIn_hit (c set : List UInt8) (i : Nat) (hi : i < c.length) (h2 : set.contains (c[i]'hi) = true) : hasIn c set = true := by
  unfold hasIn
  exact List.any_eq_true.2 ⟨_, List.getElem_mem hi, h2⟩

theorem contains_step (set : List UInt8) (x : UInt8) (j : Nat) (hj : j < set.length) (h : (set.take j).contains x = false) (h2 : (x == set[j]'hj) = false) : (set.take (j + 1)).contains x = false := by
  rw [List.take_succ_eq_append_getElem hj]
  simp only [List.contains_eq_mem, List.mem_append, List.mem_singleton, decide_eq_false_iff_not] at *
  rintro (hm | hm)
  · exact h hm
  · rw [hm] at h2; simp at h2

theorem contains_hit (set : List UInt8) (x : UInt8) (j : Nat) (hj : j < set.length) (h2 : (x == set[j]'hj) = true) : set.contains x = true := by
  have : x = set[j] := by simpa using h2
  rw [this]
  simp

theorem byte_beq (x y : UInt8) : ((x.toNat : Int) == (y.toNat : Int)) = (x == y) := by
  rw [Bool.eq_iff_iff, beq_iff_eq, beq_iff_eq, ← UInt8.toNat_inj]
  omega

theorem at_data (c : ByteArray) (i : Nat) (h : i < c.size) (h' : i < c.data.toList.length) : c.data.toList[i]'h' = c[i]'h := rfl

set_option maxRecDepth 100000 in
set_option maxHeartbeats 1000000 in
theorem has_any (c set : ByteArray) (w : World) (hc : c.size ≤ maxLen) (hs : set.size ≤ maxLen) :
    Calls Try.prog 10 #[.string c, .string set] w fun e w' => e = .returned (.bool (hasIn c.data.toList set.data.toList)) ∧ Below w.heap.size w w' := by
  unfold maxLen at hc hs
  go_enter Try.func10, Try.ntmps10
  go_wp2_with fail
  go_loopg [5] c.size (fun g iv wx => ∃ i : Nat, i + g = c.size ∧ iv = .int .i64 i ∧ hasIn (c.data.toList.take i) set.data.toList = false ∧ Below w.heap.size w wx)
  case atStart => exact ⟨0, by omega, rfl, rfl, Below.refl _ _⟩
  case round =>
    obtain ⟨i, hig, rfl, hno, hbel⟩ := hrel
    have HN : Aside (hasIn (c.data.toList.take i) set.data.toList = false) := hno
    clear hno
    by_cases hi : i < c.size
    · have hi' : i < c.data.toList.length := by rw [← Lib.size_eq]; exact hi
      go_wp2_with fail
      go_loopg [6] set.size (fun g jv wx => ∃ j : Nat, j + g = set.size ∧ jv = .int .i64 j ∧ (set.data.toList.take j).contains (c.data.toList[i]'hi') = false ∧ Below w.heap.size w wx)
      case atStart => exact ⟨0, by omega, rfl, rfl, hbel⟩
      case round =>
        clear hbel
        obtain ⟨j, hjg, rfl, hno2, hbel⟩ := hrel
        have HN2 : Aside ((set.data.toList.take j).contains (c.data.toList[i]'hi') = false) := hno2
        clear hno2
        by_cases hj : j < set.size
        · have hj' : j < set.data.toList.length := by rw [← Lib.size_eq]; exact hj
          have b1 : (i : Int) < (c.size : Int) := by omega
          have b2 : (j : Int) < (set.size : Int) := by omega
          go_wp2_with fail
          go_quiet (fail)
          go_wp2_with fail
          · go_ret
            have hh : (c[i].toNat : Int) == (set[j].toNat : Int) := by assumption
            rw [byte_beq] at hh
            refine ⟨?_, below_drewN hbel _⟩
            rw [hasIn_hit c.data.toList set.data.toList i hi' (contains_hit _ _ j hj' hh)]
            rfl
          · have hh : ((c[i].toNat : Int) == (set[j].toNat : Int)) = false := by assumption
            rw [byte_beq] at hh
            go_roundg (set.size - (j + 1))
            case measure => omega
            case rel => exact ⟨j + 1, by omega, by go_num, contains_step _ _ j hj' HN2.out hh, below_drewN hbel _⟩
        · go_wp2_with fail
          go_roundg (c.size - (i + 1))
          case measure => omega
          case rel =>
            have e := HN2.out
            rw [List.take_of_length_le (by rw [← Lib.size_eq]; omega)] at e
            exact ⟨i + 1, by omega, by go_num, hasIn_step _ _ i hi' HN.out e, hbel⟩
    · go_wp2_with fail
      go_ret
      refine ⟨?_, hbel⟩
      have e := HN.out
      rw [List.take_of_length_le (by rw [← Lib.size_eq]; omega)] at e
      rw [e]
      rfl

end Go.Proofs.Qxb6001149a
