import Derived.Test.Qxb6001149aAny
namespace Go.Proofs.Qxb6001149a
open Go.RowKit

theorem bcell {B : Nat} {W w1 : World} (hb : Below B W w1) : (∀ b o, b < B → w1.cell? ⟨b, o, none⟩ = W.cell? ⟨b, o, none⟩) ∧ (∀ b o, b < B → w1.frozen? ⟨b, o, none⟩ = W.frozen? ⟨b, o, none⟩) :=
  ⟨fun b o h => hb.cell (p := ⟨b, o, none⟩) h, fun b o h => hb.frozen (p := ⟨b, o, none⟩) h⟩

theorem line_of : ∀ l : List UInt8, (Lib.indexAny l [10, 13] = -1 ∧ Pl.line l = []) ∨ (0 ≤ Lib.indexAny l [10, 13] ∧ Lib.indexAny l [10, 13] < l.length ∧ Pl.line l = l.drop (Lib.indexAny l [10, 13] + 1).toNat)
  | [] => Or.inl ⟨rfl, rfl⟩
  | a :: t => by
    have ih := line_of t
    have hc : ([10, 13] : List UInt8).contains a = (a == 10 || a == 13) := by simp only [List.contains_cons, List.contains_nil, Bool.or_false]
    rw [Lib.indexAny, Pl.line, hc]
    cases h : (a == 10 || a == 13)
    · rcases ih with ⟨i1, i2⟩ | ⟨i1, i2, i3⟩
      · left; simp [i1, i2]
      · right
        have hne : (Lib.indexAny t [10, 13] == -1) = false := beq_eq_false_iff_ne.2 (by omega)
        have e : (Lib.indexAny t [10, 13] + 1 + 1).toNat = (Lib.indexAny t [10, 13] + 1).toNat + 1 := by omega
        refine ⟨?_, ?_, ?_⟩
        · simp [hne]; omega
        · simp [hne]; omega
        · simp [hne, e, i3]
    · right
      simp

theorem ext_drop (s : ByteArray) (n : Nat) : (s.extract n s.size).data.toList = s.data.toList.drop n := by
  rw [Lib.extract_data]
  exact List.take_of_length_le (by simp)

theorem empty_toList {s : ByteArray} (h : s.data.toList = []) : s.toList.isEmpty = true := by rw [Lib.toList_data, h]; rfl
theorem cons_toList {s : ByteArray} {a : UInt8} {t : List UInt8} (h : s.data.toList = a :: t) : s.toList.isEmpty = false := by rw [Lib.toList_data, h]; rfl
theorem cons_size {s : ByteArray} {a : UInt8} {t : List UInt8} (h : s.data.toList = a :: t) : s.size = t.length + 1 := by rw [Lib.size_eq, h]; rfl
theorem cons_zero {s : ByteArray} {a : UInt8} {t : List UInt8} (h : s.data.toList = a :: t) (hz : 0 < s.size) : s[0]'hz = a := by
  have := Lib.data_getElem? s 0 hz
  rw [h] at this
  exact (Option.some.inj this).symm

/-- What the loop of skipSpace holds: what is left of the text lies in the scanner's one cell. -/
structure Held (b : Nat) (l : List UInt8) (w wx : World) (s : ByteArray) : Prop where
  cell : wx.cell? ⟨b, 0, none⟩ = some (.string s)
  frozen : wx.frozen? ⟨b, 0, none⟩ = false
  lt : b < wx.heap.size
  below : Below b w wx
  le : s.data.toList.length ≤ l.length

theorem Held.store {b : Nat} {l : List UInt8} {w wx : World} {s : ByteArray} (h : Held b l w wx s) (s1 : ByteArray) (h1 : s1.data.toList.length ≤ l.length) :
    Held b l w (wx.setCell ⟨b, 0, none⟩ (.string s1)) s1 :=
  ⟨World.cell?_setCell_same _ _ _ h.cell, by rw [World.frozen?_setCell]; exact h.frozen, by simpa [World.setCell] using h.lt, h.below.setCell (Nat.le_refl _) _, h1⟩

theorem Held.later {b : Nat} {l : List UInt8} {w wx w1 : World} {s : ByteArray} (h : Held b l w wx s) (hb : Below wx.heap.size wx w1) : Held b l w w1 s :=
  ⟨((bcell hb).1 _ _ h.lt).trans h.cell, ((bcell hb).2 _ _ h.lt).trans h.frozen, Nat.lt_of_lt_of_le h.lt hb.size, h.below.trans (hb.mono (Nat.le_of_lt h.lt)), h.le⟩

theorem pre_of {s p : List UInt8} : Lib.hasPrefix s p = true → ∃ t, s = p ++ t := by
  intro h
  obtain ⟨t, ht⟩ := List.isPrefixOf_iff_prefix.1 h
  exact ⟨t, ht.symm⟩

/-- Three ways through a comment's round. -/
theorem com_up {d : Nat} {l : List UInt8} (h : Lib.hasPrefix l [47, 42] = true) : Pl.com (d + 1) l = Pl.com (d + 2) (l.drop 2) ∧ 2 ≤ l.length := by
  obtain ⟨t, rfl⟩ := pre_of h
  exact ⟨rfl, by simp⟩
theorem com_down {d : Nat} {l : List UInt8} (h : Lib.hasPrefix l [42, 47] = true) : Pl.com (d + 1) l = Pl.com d (l.drop 2) ∧ 2 ≤ l.length := by
  obtain ⟨t, rfl⟩ := pre_of h
  exact ⟨rfl, by simp⟩
theorem com_on {d : Nat} {a : UInt8} {t : List UInt8} (h1 : Lib.hasPrefix (a :: t) [47, 42] = false) (h2 : Lib.hasPrefix (a :: t) [42, 47] = false) : Pl.com (d + 1) (a :: t) = Pl.com (d + 1) t := by
  cases t with
  | nil => rw [Pl.com_one, Pl.com_nil]
  | cons b t =>
    have e1 : (a == 47 && b == 42) = false := by
      rw [Bool.eq_false_iff]
      intro h
      simp only [Bool.and_eq_true, beq_iff_eq] at h
      obtain ⟨rfl, rfl⟩ := h
      rw [Pl.pre_star] at h1
      cases h1
    have e2 : (a == 42 && b == 47) = false := by
      rw [Bool.eq_false_iff]
      intro h
      simp only [Bool.and_eq_true, beq_iff_eq] at h
      obtain ⟨rfl, rfl⟩ := h
      have : Lib.hasPrefix (42 :: 47 :: t) [42, 47] = true := by simp [Lib.hasPrefix]
      rw [this] at h2
      cases h2
    rw [Pl.com_cons, e1, e2]
    rfl

theorem sk_of_com {l : List UInt8} {a : UInt8} {t : List UInt8} (h : l = a :: t) (hb : Pl.blk a = false) (h1 : Lib.hasPrefix l [45, 45] = false) (h2 : Lib.hasPrefix l [47, 42] = true) :
    Pl.sk (Pl.com 1 (l.drop 2)) = Pl.sk l := by
  subst h
  exact (Pl.sk_com hb h1 h2).symm

set_option maxRecDepth 100000 in
set_option maxHeartbeats 4000000 in
theorem skip_any (b : Nat) (s : ByteArray) (w : World) (hc : w.cell? ⟨b, 0, none⟩ = some (.string s)) (hf : w.frozen? ⟨b, 0, none⟩ = false) (hb : b < w.heap.size) (hl : s.data.toList.length < 4294967281) :
    Calls Try.prog 12 #[.pointer (some ⟨b, 0, none⟩)] w fun e w' => e = .returned (.tuple #[]) ∧ ∃ r, r.data.toList = Pl.sk s.data.toList ∧ Held b s.data.toList w w' r := by
  have hH : Held b s.data.toList w w s := ⟨hc, hf, hb, Below.refl _ _, Nat.le_refl _⟩
  clear hc hf hb
  generalize hs : s.data.toList = l at *
  go_enter Try.func12, Try.ntmps12
  go_wp2_with fail
  go_loopg [2] l.length (fun g _ wx => ∃ s' : ByteArray, s'.data.toList.length ≤ g ∧ Pl.sk s'.data.toList = Pl.sk l ∧ Held b l w wx s')
  case atStart => exact ⟨s, by rw [hs]; omega, by rw [hs], hH⟩
  case round =>
    clear hH hs
    obtain ⟨s', hlg, hsk, hH⟩ := hrel
    obtain ⟨hc', hf', hb', hbel, hll⟩ := hH
    have hH : Held b l w wr s' := ⟨hc', hf', hb', hbel, hll⟩
    have HS : Aside (Pl.sk s'.data.toList = Pl.sk l) := hsk
    clear hsk hbel hll
    cases hat : s'.data.toList with
    | nil =>
      have he := empty_toList hat
      have HA : Aside (s'.data.toList = []) := hat
      clear hat
      go_wp2_with fail
      go_end0
      refine ⟨rfl, s', ?_, hH⟩
      rw [← HS.out, HA.out]
      rfl
    | cons a t =>
      have he := cons_toList hat
      have hz : 0 < s'.size := by have := cons_size hat; omega
      have hzi : (0 : Int) < (s'.size : Int) := by omega
      have hx := cons_zero hat hz
      have HA : Aside (s'.data.toList = a :: t) := hat
      have HL : Aside (s'.data.toList.length = t.length + 1) := by show _ = _; rw [hat]; rfl
      have hsz : s'.size = s'.data.toList.length := Lib.size_eq s'
      have hsl : s'.size ≤ l.length := by rw [hsz]; exact hH.le
      clear hat hsz
      have hcon := Lib.contains_iff_indexByte [32, 9, 10, 13, 12] a
      have hback : ((a.toNat : Int)).toNat.toUInt8 = a := by simp
      cases hblk : Pl.blk a
      · have hcon' : decide (0 ≤ Lib.indexByte [32, 9, 10, 13, 12] a) = false := hcon.symm.trans hblk
        have hge : ¬ (0 : Int) ≤ Lib.indexByte [32, 9, 10, 13, 12] a := of_decide_eq_false hcon'
        have HB : Aside (Pl.blk a = false) := hblk
        clear hcon hcon' hblk
        cases h1 : Lib.hasPrefix s'.data.toList [45, 45]
        · cases h2 : Lib.hasPrefix s'.data.toList [47, 42]
          · go_wp2_with (first | (go_at_call 13; refine (Try.strings_IndexByte _ _ _).mono ?_; rintro e w' ⟨rfl, hw⟩; rw [hw, hback]) | (go_at_call 14; refine (Try.strings_HasPrefix _ _ _).mono ?_; rintro e w' ⟨rfl, hw⟩; rw [hw]))
            refine bodyPost_ret (results_none rfl _ _ _) rfl ?_
            refine ⟨rfl, s', ?_, hH⟩
            rw [← HS.out, HA.out]
            rw [HA.out] at h1 h2
            exact (Pl.sk_stop HB.out h1 h2).symm
          · have h2s : (2 : Int) ≤ (s'.size : Int) := by
              rw [Lib.size_eq]
              have := (com_up (d := 0) h2).2
              omega
            go_wp2_with (first | (go_at_call 13; refine (Try.strings_IndexByte _ _ _).mono ?_; rintro e w' ⟨rfl, hw⟩; rw [hw, hback]) | (go_at_call 14; refine (Try.strings_HasPrefix _ _ _).mono ?_; rintro e w' ⟨rfl, hw⟩; rw [hw]))
            go_loopg [3] s'.size (fun g d wx => ∃ (k : Nat) (s'' : ByteArray), d = .int .i64 k ∧ s''.data.toList.length ≤ g ∧ s''.data.toList.length + k ≤ l.length ∧ s''.data.toList.length < s'.data.toList.length ∧ Pl.com k s''.data.toList = Pl.com 1 (s'.data.toList.drop 2) ∧ Held b l w wx s'')
            case atStart =>
              have e := ext_drop s' 2
              have hle := hH.le
              have hll := HL.out
              have hsz := Lib.size_eq s'
              have e2 : (s'.data.toList.drop 2).length = s'.data.toList.length - 2 := by simp
              exact ⟨1, s'.extract 2 s'.size, rfl, by rw [e, e2]; omega, by rw [e, e2]; omega, by rw [e, e2]; omega, by rw [e], hH.store _ (by rw [e, e2]; omega)⟩
            case round =>
              obtain ⟨k, s'', rfl, m1, m2, m3, m4, hH2⟩ := hrel
              have HC : Aside (Pl.com k s''.data.toList = Pl.com 1 (s'.data.toList.drop 2)) := m4
              have HL2 : Aside (s''.data.toList.length < s'.data.toList.length) := m3
              clear m4 m3 hc' hf' hb'
              have hc2 := hH2.cell
              have hf2 := hH2.frozen
              cases k with
              | zero =>
                go_wp2_with fail
                go_roundg t.length
                case measure => have := HL.out; omega
                case rel =>
                  have e1 := HL.out
                  have e2 := HL2.out
                  have e3 := HC.out
                  rw [Pl.com_zero] at e3
                  exact ⟨s'', by omega, by rw [e3, ← HS.out]; exact sk_of_com HA.out HB.out h1 h2, hH2⟩
              | succ k =>
                have hkb : k + 1 < 4294967281 := by omega
                cases hat2 : s''.data.toList with
                | nil =>
                  have he2 := empty_toList hat2
                  have HA2 : Aside (s''.data.toList = []) := hat2
                  clear hat2
                  go_wp2_with fail
                  go_roundg t.length
                  case measure => have := HL.out; omega
                  case rel =>
                    have e1 := HL.out
                    have e2 := HL2.out
                    have e3 := HC.out
                    rw [HA2.out, Pl.com_nil] at e3
                    exact ⟨s'', by omega, by rw [HA2.out, e3, ← HS.out]; exact sk_of_com HA.out HB.out h1 h2, hH2⟩
                | cons a2 t2 =>
                  have he2 := cons_toList hat2
                  have hz2 : (1 : Int) ≤ (s''.size : Int) := by have := cons_size hat2; omega
                  have HA2 : Aside (s''.data.toList = a2 :: t2) := hat2
                  have HL3 : Aside (s''.data.toList.length = t2.length + 1) := by show _ = _; rw [hat2]; rfl
                  clear hat2
                  cases g1 : Lib.hasPrefix s''.data.toList [47, 42]
                  · cases g2 : Lib.hasPrefix s''.data.toList [42, 47]
                    · go_wp2_with (go_at_call 14; refine (Try.strings_HasPrefix _ _ _).mono ?_; rintro e w' ⟨rfl, hw⟩; rw [hw])
                      go_roundg t2.length
                      case measure => have e := HL3.out; omega
                      case rel =>
                        have e := ext_drop s'' 1
                        rw [HA2.out] at e
                        have e0 := HL3.out
                        have e1 := HL2.out
                        have e2 : (List.drop 1 (a2 :: t2)).length = t2.length := by simp
                        refine ⟨k + 1, s''.extract 1 s''.size, by go_num, by rw [e, e2]; omega, by rw [e, e2]; omega, by rw [e, e2]; omega, ?_, hH2.store _ (by rw [e, e2]; omega)⟩
                        rw [← HC.out, e, HA2.out]
                        rw [HA2.out] at g1 g2
                        exact (com_on g1 g2).symm
                    · have hu := com_down (d := k) g2
                      have HU : Aside (Pl.com (k + 1) s''.data.toList = Pl.com k (s''.data.toList.drop 2)) := hu.1
                      have hs2 : (2 : Int) ≤ (s''.size : Int) := by rw [Lib.size_eq]; have := hu.2; omega
                      clear hu
                      go_wp2_with (go_at_call 14; refine (Try.strings_HasPrefix _ _ _).mono ?_; rintro e w' ⟨rfl, hw⟩; rw [hw])
                      go_roundg t2.length
                      case measure => have e := HL3.out; omega
                      case rel =>
                        have e := ext_drop s'' 2
                        have e0 := HL3.out
                        have e1 := HL2.out
                        have e2 : (s''.data.toList.drop 2).length = s''.data.toList.length - 2 := by simp
                        exact ⟨k, s''.extract 2 s''.size, by go_num, by rw [e, e2]; omega, by rw [e, e2]; omega, by rw [e, e2]; omega, by rw [← HC.out, e, HU.out], hH2.store _ (by rw [e, e2]; omega)⟩
                  · have hu := com_up (d := k) g1
                    have HU : Aside (Pl.com (k + 1) s''.data.toList = Pl.com (k + 2) (s''.data.toList.drop 2)) := hu.1
                    have hs2 : (2 : Int) ≤ (s''.size : Int) := by rw [Lib.size_eq]; have := hu.2; omega
                    clear hu
                    go_wp2_with (go_at_call 14; refine (Try.strings_HasPrefix _ _ _).mono ?_; rintro e w' ⟨rfl, hw⟩; rw [hw])
                    go_roundg t2.length
                    case measure => have e := HL3.out; omega
                    case rel =>
                      have e := ext_drop s'' 2
                      have e0 := HL3.out
                      have e1 := HL2.out
                      have e3 := Lib.size_eq s''
                      have e2 : (s''.data.toList.drop 2).length = s''.data.toList.length - 2 := by simp
                      exact ⟨k + 2, s''.extract 2 s''.size, by go_num, by rw [e, e2]; omega, by rw [e, e2]; omega, by rw [e, e2]; omega, by rw [← HC.out, e, HU.out], hH2.store _ (by rw [e, e2]; omega)⟩
        · go_wp2_with (first | (go_at_call 13; refine (Try.strings_IndexByte _ _ _).mono ?_; rintro e w' ⟨rfl, hw⟩; rw [hw, hback]) | (go_at_call 14; refine (Try.strings_HasPrefix _ _ _).mono ?_; rintro e w' ⟨rfl, hw⟩; rw [hw]))
          refine (indexAny_any s' _ (by omega)).mono ?_
          rintro e w1 ⟨rfl, hw1⟩
          have hH1 := hH.later hw1
          have hc1 := hH1.cell
          have hf1 := hH1.frozen
          have hlo := line_of s'.data.toList
          rcases hlo with ⟨i1, i2⟩ | ⟨i1, i2, i3⟩
          · have HI : Aside (Pl.line s'.data.toList = []) := i2
            have i1' : ¬ (0 : Int) ≤ Lib.indexAny s'.data.toList [10, 13] := by omega
            clear i1 i2
            go_wp2_with fail
            go_roundg t.length
            case measure => have := HL.out; omega
            case rel =>
              have hll := HL.out
              exact ⟨⟨#[]⟩, by simp, by rw [← HS.out, HA.out, Pl.sk_line HB.out (by rw [← HA.out]; exact h1), ← HA.out, HI.out], hH1.store _ (by simp)⟩
          · generalize hk : Lib.indexAny s'.data.toList [10, 13] = k at *
            have HI : Aside (Pl.line s'.data.toList = s'.data.toList.drop (k + 1).toNat) := i3
            have hk2 : k + 1 ≤ (s'.size : Int) := by rw [Lib.size_eq]; omega
            clear i3 i2
            have hks : k < 9223372036854775807 := by omega
            have hks0 : 0 ≤ k + 1 := by omega
            go_wp2_with fail
            go_roundg t.length
            case measure => have := HL.out; omega
            case rel =>
              have hll := HL.out
              have e := ext_drop s' (k + 1).toNat
              have hle := hH.le
              have e2 : (s'.data.toList.drop (k + 1).toNat).length = s'.data.toList.length - (k + 1).toNat := by simp
              exact ⟨s'.extract (k + 1).toNat s'.size, by rw [e, e2]; omega, by rw [e, ← HS.out, ← HI.out, HA.out]; exact (Pl.sk_line HB.out (by rw [← HA.out]; exact h1)).symm, hH1.store _ (by rw [e, e2]; omega)⟩
      · have hcon' : decide (0 ≤ Lib.indexByte [32, 9, 10, 13, 12] a) = true := hcon.symm.trans hblk
        have hge : (0 : Int) ≤ Lib.indexByte [32, 9, 10, 13, 12] a := of_decide_eq_true hcon'
        have HB : Aside (Pl.blk a = true) := hblk
        clear hcon hcon' hblk
        go_wp2_with (go_at_call 13; refine (Try.strings_IndexByte _ _ _).mono ?_; rintro e w' ⟨rfl, hw⟩; rw [hw, hback])
        go_roundg t.length
        case measure => have := HL.out; omega
        case rel =>
          have e := ext_drop s' 1
          rw [HA.out] at e
          have hle := hH.le
          have hll := HL.out
          exact ⟨s'.extract 1 s'.size, by rw [e]; simp, by rw [e, ← HS.out, HA.out]; exact (Pl.sk_blk HB.out).symm, hH.store _ (by rw [e]; simp; omega)⟩

end Go.Proofs.Qxb6001149a
