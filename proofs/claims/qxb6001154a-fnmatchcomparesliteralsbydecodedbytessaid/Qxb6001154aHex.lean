/-
  unhex, ptb1HexVal, ptb1HexDigit, ptb1WellFormed, ptb1HasPercent: what they compute.
-/
import Derived.Test.Qxb6001154aBuf
namespace Go.Proofs.Qxb6001154a
open Go.RowKit

theorem ret_int {k : IntKind} {a b : Int} (h : a = b) : Ending.returned (.int k a) = .returned (.int k b) := by rw [h]
theorem ret_int_bool {k : IntKind} {a b : Int} {c : Bool} (h : a = b) : Ending.returned (.tuple #[.int k a, .bool c]) = .returned (.tuple #[.int k b, .bool c]) := by rw [h]

set_option maxRecDepth 100000 in
set_option maxHeartbeats 1000000 in
theorem unhex_any (x : UInt8) (h : Pl.hex x = true) (w : World) :
    Calls Try.prog 49 #[.int .u8 x.toNat] w fun e w' => e = .returned (.int .u8 (Pl.hv x)) ∧ w' = w := by
  have hc := Pl.hex_cases h
  have hx := UInt8.toNat_lt x
  clear h
  rcases hc with ⟨h1, h2⟩ | ⟨h1, h2⟩ | ⟨h1, h2⟩
  · have hv : ((Pl.hv x : Nat) : Int) = (x.toNat : Int) - 48 := by unfold Pl.hv; rw [if_pos h2]; omega
    rw [hv]
    clear hv
    go_enter Try.func49, Try.ntmps49
    go_wp2
    go_ret
    exact ⟨rfl, rfl⟩
  · have hv : ((Pl.hv x : Nat) : Int) = (x.toNat : Int) - 97 + 10 := by unfold Pl.hv; rw [if_neg (by omega), if_neg (by omega)]; omega
    rw [hv]
    clear hv
    go_enter Try.func49, Try.ntmps49
    go_wp2
    go_ret
    exact ⟨rfl, rfl⟩
  · have hv : ((Pl.hv x : Nat) : Int) = (x.toNat : Int) - 65 + 10 := by unfold Pl.hv; rw [if_neg (by omega), if_pos (by omega)]; omega
    rw [hv]
    clear hv
    go_enter Try.func49, Try.ntmps49
    go_wp2
    go_ret
    exact ⟨rfl, rfl⟩

set_option maxRecDepth 100000 in
set_option maxHeartbeats 1000000 in
theorem hexval_yes (x : UInt8) (h : Pl.hex x = true) (w : World) :
    Calls Try.prog 39 #[.int .u8 x.toNat] w fun e w' => e = .returned (.tuple #[.int .u8 (Pl.hv x), .bool true]) ∧ w' = w := by
  have hc := Pl.hex_cases h
  have hx := UInt8.toNat_lt x
  clear h
  rcases hc with ⟨h1, h2⟩ | ⟨h1, h2⟩ | ⟨h1, h2⟩
  · have hv : ((Pl.hv x : Nat) : Int) = (x.toNat : Int) - 48 := by unfold Pl.hv; rw [if_pos h2]; omega
    rw [hv]
    clear hv
    have d1 : decide ((48 : Int) ≤ (x.toNat : Int)) = true := decide_eq_true (by omega)
    go_enter Try.func39, Try.ntmps39
    go_wp2
    go_ret2
    exact ⟨rfl, rfl⟩
  · have hv : ((Pl.hv x : Nat) : Int) = (x.toNat : Int) - 97 + 10 := by unfold Pl.hv; rw [if_neg (by omega), if_neg (by omega)]; omega
    rw [hv]
    clear hv
    have d1 : decide ((48 : Int) ≤ (x.toNat : Int)) = true := decide_eq_true (by omega)
    have d2 : decide ((x.toNat : Int) ≤ (57 : Int)) = false := decide_eq_false (by omega)
    have d3 : decide ((97 : Int) ≤ (x.toNat : Int)) = true := decide_eq_true (by omega)
    go_enter Try.func39, Try.ntmps39
    go_wp2
    go_ret2
    exact ⟨rfl, rfl⟩
  · have hv : ((Pl.hv x : Nat) : Int) = (x.toNat : Int) - 65 + 10 := by unfold Pl.hv; rw [if_neg (by omega), if_pos (by omega)]; omega
    rw [hv]
    clear hv
    have d1 : decide ((48 : Int) ≤ (x.toNat : Int)) = true := decide_eq_true (by omega)
    have d2 : decide ((x.toNat : Int) ≤ (57 : Int)) = false := decide_eq_false (by omega)
    have d3 : decide ((97 : Int) ≤ (x.toNat : Int)) = false := decide_eq_false (by omega)
    have d4 : decide ((65 : Int) ≤ (x.toNat : Int)) = true := decide_eq_true (by omega)
    go_enter Try.func39, Try.ntmps39
    go_wp2
    go_ret2
    exact ⟨rfl, rfl⟩

set_option maxRecDepth 100000 in
set_option maxHeartbeats 1000000 in
theorem hexval_no (x : UInt8) (h : Pl.hex x = false) (w : World) :
    Calls Try.prog 39 #[.int .u8 x.toNat] w fun e w' => e = .returned (.tuple #[.int .u8 0, .bool false]) ∧ w' = w := by
  have hc := Pl.hex_not h
  have hx := UInt8.toNat_lt x
  clear h
  by_cases c1 : x.toNat < 48
  · have d1 : decide ((48 : Int) ≤ (x.toNat : Int)) = false := decide_eq_false (by omega)
    have d3 : decide ((97 : Int) ≤ (x.toNat : Int)) = false := decide_eq_false (by omega)
    have d4 : decide ((65 : Int) ≤ (x.toNat : Int)) = false := decide_eq_false (by omega)
    clear hc
    go_enter Try.func39, Try.ntmps39
    go_wp2
    go_ret2
    exact ⟨rfl, rfl⟩
  have d1 : decide ((48 : Int) ≤ (x.toNat : Int)) = true := decide_eq_true (by omega)
  have d2 : decide ((x.toNat : Int) ≤ (57 : Int)) = false := decide_eq_false (by omega)
  by_cases c2 : x.toNat < 65
  · have d3 : decide ((97 : Int) ≤ (x.toNat : Int)) = false := decide_eq_false (by omega)
    have d4 : decide ((65 : Int) ≤ (x.toNat : Int)) = false := decide_eq_false (by omega)
    clear hc
    go_enter Try.func39, Try.ntmps39
    go_wp2
    go_ret2
    exact ⟨rfl, rfl⟩
  have d4 : decide ((65 : Int) ≤ (x.toNat : Int)) = true := decide_eq_true (by omega)
  have d5 : decide ((x.toNat : Int) ≤ (70 : Int)) = false := decide_eq_false (by omega)
  by_cases c3 : x.toNat < 97
  · have d3 : decide ((97 : Int) ≤ (x.toNat : Int)) = false := decide_eq_false (by omega)
    clear hc
    go_enter Try.func39, Try.ntmps39
    go_wp2
    go_ret2
    exact ⟨rfl, rfl⟩
  have d3 : decide ((97 : Int) ≤ (x.toNat : Int)) = true := decide_eq_true (by omega)
  have d6 : decide ((x.toNat : Int) ≤ (102 : Int)) = false := decide_eq_false (by omega)
  clear hc
  go_enter Try.func39, Try.ntmps39
  go_wp2
  go_ret2
  exact ⟨rfl, rfl⟩

set_option maxRecDepth 100000 in
set_option maxHeartbeats 1000000 in
theorem hexdigit_any (v : Nat) (u : Bool) (h : v < 16) (w : World) :
    Calls Try.prog 37 #[.int .u8 v, .bool u] w fun e w' => e = .returned (.int .u8 (Pl.hd u v).toNat) ∧ w' = w := by
  rw [Pl.hd_toNat u v h]
  by_cases h1 : v < 10
  · rw [if_pos h1]
    go_enter Try.func37, Try.ntmps37
    go_wp2
    go_ret
    exact ⟨ret_int (by go_num), rfl⟩
  · rw [if_neg h1]
    cases u
    · have e : (((if false = true then 55 + v else 87 + v) : Nat) : Int) = 97 + (v : Int) - 10 := by rw [if_neg (by simp)]; omega
      rw [e]
      clear e
      go_enter Try.func37, Try.ntmps37
      go_wp2
      go_ret
      exact ⟨rfl, rfl⟩
    · have e : (((if true = true then 55 + v else 87 + v) : Nat) : Int) = 65 + (v : Int) - 10 := by rw [if_pos rfl]; omega
      rw [e]
      clear e
      go_enter Try.func37, Try.ntmps37
      go_wp2
      go_ret
      exact ⟨rfl, rfl⟩

theorem drop_cons {s : ByteArray} {k : Nat} (hk : k < s.size) : s.data.toList.drop k = (s[k]'hk) :: s.data.toList.drop (k + 1) := by
  have h : k < s.data.toList.length := by rw [← Lib.size_eq]; exact hk
  exact List.drop_eq_getElem_cons h

theorem drop_end {s : ByteArray} {k : Nat} (hk : ¬ k < s.size) : s.data.toList.drop k = [] := by
  refine List.drop_eq_nil_of_le ?_
  rw [← Lib.size_eq]
  omega

theorem drop_size {s : ByteArray} {k : Nat} {l : List UInt8} (h : s.data.toList.drop k = l) (hl : 0 < l.length) : k + l.length = s.size := by
  rw [Lib.size_eq, ← h, List.length_drop]
  rw [← h, List.length_drop] at hl
  omega

theorem at_of_drop {s : ByteArray} {k : Nat} {a : UInt8} {l : List UInt8} (h : s.data.toList.drop k = a :: l) (hk : k < s.size) : s[k]'hk = a := by
  rw [drop_cons hk] at h
  exact (List.cons.inj h).1
theorem drop_of_drop {s : ByteArray} {k : Nat} {a : UInt8} {l : List UInt8} (h : s.data.toList.drop k = a :: l) : s.data.toList.drop (k + 1) = l := by
  rw [← List.drop_drop, h]
  rfl

theorem not37 {x : UInt8} (h : x ≠ 37) : ((x.toNat : Int) == 37) = false := beq_eq_false_iff_ne.2 fun e => h (Pl.u8_eq.2 (by show x.toNat = 37; omega))

set_option maxRecDepth 100000 in
set_option maxHeartbeats 1000000 in
theorem wf_any (s : ByteArray) (hs : s.size ≤ 1048576) (w : World) :
    Calls Try.prog 16 #[.string s] w fun e w' => e = .returned (.bool (Pl.wf s.data.toList)) ∧ w' = w := by
  generalize hl : Pl.wf s.data.toList = b
  have HL : Aside (Pl.wf s.data.toList = b) := hl
  clear hl
  go_enter Try.func16, Try.ntmps16
  go_wp2_with fail
  go_loopg [3] s.size (fun g iv wx => ∃ k : Nat, s.size - k ≤ g ∧ k ≤ s.size ∧ iv = .int .i64 k ∧ Pl.wf (s.data.toList.drop k) = b ∧ wx = w)
  case atStart => exact ⟨0, by omega, by omega, rfl, HL.out, rfl⟩
  case round =>
    obtain ⟨k, hg, hk, rfl, hw, rfl⟩ := hrel
    have HW : Aside (Pl.wf (s.data.toList.drop k) = b) := hw
    clear hw HL
    by_cases hlt : k < s.size
    · cases hd : s.data.toList.drop k with
      | nil => rw [drop_cons hlt] at hd; cases hd
      | cons x t =>
        have hx := at_of_drop hd hlt
        have hki : (k : Int) < (s.size : Int) := by omega
        by_cases h37 : x = 37
        · subst h37
          have HD : Aside (s.data.toList.drop k = 37 :: t) := hd
          have hsz := drop_size hd (by simp)
          clear hd
          match t, HD, hsz with
          | [], HD, hsz =>
            have hw := HW.out
            rw [HD.out] at hw
            obtain rfl : false = b := hw
            simp only [List.length_cons, List.length_nil] at hsz
            go_wp2_with fail
            go_ret
            exact ⟨rfl, rfl⟩
          | [y], HD, hsz =>
            have hw := HW.out
            rw [HD.out] at hw
            obtain rfl : false = b := hw
            simp only [List.length_cons, List.length_nil] at hsz
            go_wp2_with fail
            go_ret
            exact ⟨rfl, rfl⟩
          | y :: z :: t', HD, hsz =>
            simp only [List.length_cons] at hsz
            have h2 : ((k : Int) + 2) < (s.size : Int) := by omega
            have d1 := drop_of_drop HD.out
            have d2 := drop_of_drop d1
            have d3 := drop_of_drop d2
            have hy := at_of_drop d1 (by omega)
            have hz : s[k + 2]'(by omega) = z := at_of_drop (k := k + 2) d2 (by omega)
            have HD3 : Aside (s.data.toList.drop (k + 3) = t') := d3
            clear d1 d2 d3
            have HW2 : Aside (Pl.wf (37 :: y :: z :: t') = b) := by show _ = _; rw [← HD.out]; exact HW.out
            cases e1 : Pl.hex y
            · have hw := HW2.out
              rw [Pl.wf_pct, e1] at hw
              obtain rfl : false = b := hw
              go_wp2_with fail
              refine (hexval_no y e1 _).mono ?_
              rintro e w' ⟨rfl, rfl⟩
              go_wp2_with fail
              go_ret
              exact ⟨rfl, rfl⟩
            · cases e2 : Pl.hex z
              · have hw := HW2.out
                rw [Pl.wf_pct, e1, e2] at hw
                obtain rfl : false = b := hw
                go_wp2_with fail
                refine (hexval_yes y e1 _).mono ?_
                rintro e w' ⟨rfl, rfl⟩
                go_wp2_with fail
                refine (hexval_no z e2 _).mono ?_
                rintro e w' ⟨rfl, rfl⟩
                go_wp2_with fail
                go_ret
                exact ⟨rfl, rfl⟩
              · have hw := HW2.out
                rw [Pl.wf_pct, e1, e2] at hw
                have HW3 : Aside (Pl.wf t' = b) := hw
                clear hw
                go_wp2_with fail
                refine (hexval_yes y e1 _).mono ?_
                rintro e w' ⟨rfl, rfl⟩
                go_wp2_with fail
                refine (hexval_yes z e2 _).mono ?_
                rintro e w' ⟨rfl, rfl⟩
                go_wp2_with fail
                go_roundg (s.size - (k + 3))
                case measure => omega
                case rel => exact ⟨k + 3, by omega, by omega, by go_num, by rw [HD3.out]; exact HW3.out, rfl⟩
        · have hn := not37 h37
          have HD : Aside (s.data.toList.drop k = x :: t) := hd
          clear hd
          go_wp2_with fail
          go_roundg (s.size - (k + 1))
          case measure => omega
          case rel => exact ⟨k + 1, by omega, by omega, by go_num, by rw [drop_of_drop HD.out, ← HW.out, HD.out, Pl.wf_plain h37], rfl⟩
    · have hw := HW.out
      rw [drop_end hlt] at hw
      obtain rfl : true = b := hw
      go_wp2_with fail
      go_ret
      exact ⟨rfl, rfl⟩

set_option maxRecDepth 100000 in
set_option maxHeartbeats 1000000 in
theorem hasPct_any (s : ByteArray) (hs : s.size ≤ 1048576) (w : World) :
    Calls Try.prog 17 #[.string s] w fun e w' => e = .returned (.bool (s.data.toList.contains 37)) ∧ w' = w := by
  generalize hl : s.data.toList.contains 37 = b
  have HL : Aside (s.data.toList.contains 37 = b) := hl
  clear hl
  go_enter Try.func17, Try.ntmps17
  go_wp2_with fail
  go_loopg [3] s.size (fun g iv wx => ∃ k : Nat, s.size - k ≤ g ∧ k ≤ s.size ∧ iv = .int .i64 k ∧ (s.data.toList.drop k).contains 37 = b ∧ wx = w)
  case atStart => exact ⟨0, by omega, by omega, rfl, HL.out, rfl⟩
  case round =>
    obtain ⟨k, hg, hk, rfl, hw, rfl⟩ := hrel
    have HW : Aside ((s.data.toList.drop k).contains 37 = b) := hw
    clear hw HL
    by_cases hlt : k < s.size
    · cases hd : s.data.toList.drop k with
      | nil => rw [drop_cons hlt] at hd; cases hd
      | cons x t =>
        have hx := at_of_drop hd hlt
        have hki : (k : Int) < (s.size : Int) := by omega
        have HD : Aside (s.data.toList.drop k = x :: t) := hd
        clear hd
        by_cases h37 : x = 37
        · subst h37
          have hw := HW.out
          rw [HD.out] at hw
          have e : (37 :: t : List UInt8).contains 37 = true := by simp
          rw [e] at hw
          subst hw
          clear e
          go_wp2_with fail
          go_ret
          exact ⟨rfl, rfl⟩
        · have hn := not37 h37
          go_wp2_with fail
          go_roundg (s.size - (k + 1))
          case measure => omega
          case rel =>
            refine ⟨k + 1, by omega, by omega, by go_num, ?_, rfl⟩
            rw [drop_of_drop HD.out, ← HW.out, HD.out, List.contains_cons]
            have : ((37 : UInt8) == x) = false := by simpa using fun e => h37 e.symm
            rw [this]
            rfl
    · have hw := HW.out
      rw [drop_end hlt] at hw
      obtain rfl : false = b := hw
      go_wp2_with fail
      go_ret
      exact ⟨rfl, rfl⟩

end Go.Proofs.Qxb6001154a
