/-
  unescape, ZZUnescape: what they compute on a well-formed text.
-/
import Derived.Test.Qxb6001154aHex
import Derived.Lib.Bytealg
namespace Go.Proofs.Qxb6001154a
open Go.RowKit

/-- What unescape gives. -/
def us (k : Bool) (s : ByteArray) : ByteArray := ⟨(Pl.un k s.data.toList).toArray⟩
theorem us_data (k : Bool) (s : ByteArray) : (us k s).data.toList = Pl.un k s.data.toList := rfl

theorem index_of : ∀ l : List UInt8, (Lib.indexByte l 37 = -1 ∧ ∀ b ∈ l, b ≠ 37) ∨ (∃ i : Nat, Lib.indexByte l 37 = i ∧ i < l.length ∧ ∀ b ∈ l.take i, b ≠ 37)
  | [] => Or.inl ⟨rfl, by simp⟩
  | a :: t => by
    have ih := index_of t
    rw [Lib.indexByte]
    by_cases h : a = 37
    · subst h
      exact Or.inr ⟨0, rfl, by simp, by simp⟩
    · have h' : (a == 37) = false := by simpa using h
      rw [h']
      rcases ih with ⟨i1, i2⟩ | ⟨i, i1, i2, i3⟩
      · left
        rw [i1]
        exact ⟨rfl, fun b hb => by
          rcases List.mem_cons.1 hb with rfl | hb
          · exact h
          · exact i2 b hb⟩
      · right
        rw [i1]
        have hne : ((i : Int) == -1) = false := beq_eq_false_iff_ne.2 (by omega)
        refine ⟨i + 1, by rw [hne]; simp, by simp; omega, fun b hb => ?_⟩
        rw [List.take_succ_cons] at hb
        rcases List.mem_cons.1 hb with rfl | hb
        · exact h
        · exact i3 b hb

theorem un_take (k : Bool) (l : List UInt8) (i : Nat) (h : ∀ b ∈ l.take i, b ≠ 37) : l.take i ++ Pl.un k (l.drop i) = Pl.un k l := by
  rw [← Pl.un_nopct k (l.take i) h, ← Pl.un_append k _ _ (Pl.wf_nopct _ h), List.take_append_drop]
theorem wf_drop (l : List UInt8) (i : Nat) (h : ∀ b ∈ l.take i, b ≠ 37) (hw : Pl.wf l = true) : Pl.wf (l.drop i) = true := by
  have gen : ∀ (p q : List UInt8), (∀ b ∈ p, b ≠ 37) → Pl.wf (p ++ q) = Pl.wf q := by
    intro p
    induction p with
    | nil => intro q _; rfl
    | cons a t ih => intro q hp; rw [List.cons_append, Pl.wf_plain (hp a (by simp)), ih q (fun b hb => hp b (by simp [hb]))]
  rw [← gen (l.take i) (l.drop i) h, List.take_append_drop]
  exact hw

theorem or_tab : ∀ a b : Fin 16, bits BinOp.or IntKind.u8 (((a.val : Nat) : Int) * 16 % 256) ((b.val : Nat) : Int) = ((a.val * 16 + b.val : Nat) : Int) := by decide

theorem or_oct {y z : UInt8} (e1 : Pl.hex y = true) (e2 : Pl.hex z = true) : bits BinOp.or IntKind.u8 (((Pl.hv y : Nat) : Int) * 16 % 256) ((Pl.hv z : Nat) : Int) = ((Pl.oct y z).toNat : Int) := by
  rw [Pl.oct_toNat e1 e2]
  exact or_tab ⟨Pl.hv y, Pl.hv_lt e1⟩ ⟨Pl.hv z, Pl.hv_lt e2⟩

theorem ne47 {x : UInt8} (h : (x == 47) = false) : ((x.toNat : Int) != 47) = true := by
  rw [bne_iff_ne]
  intro e
  have : x = 47 := Pl.u8_eq.2 (by show x.toNat = 47; omega)
  rw [this] at h
  cases h
theorem is47 {x : UInt8} (h : (x == 47) = true) : ((x.toNat : Int) != 47) = false := by
  have : x = 47 := by simpa using h
  rw [this]
  rfl

set_option maxRecDepth 100000 in
set_option maxHeartbeats 4000000 in
theorem unesc_any (s : ByteArray) (k : Bool) (hs : s.size ≤ 1073741824) (hw : Pl.wf s.data.toList = true) (w : World) :
    Calls Try.prog 38 #[.string s, .bool k] w fun e w' => e = .returned (.string (us k s)) ∧ Below w.heap.size w w' := by
  have hsz := Lib.size_eq s
  rcases index_of s.data.toList with ⟨i1, i2⟩ | ⟨i, i1, i2, i3⟩
  · have hu : us k s = s := by
      show (⟨(Pl.un k s.data.toList).toArray⟩ : ByteArray) = s
      rw [Pl.un_nopct k _ i2, Lib.mk_data]
    rw [hu]
    clear i2 hu hw
    have hneg : Lib.indexByte s.data.toList 37 < 0 := by omega
    clear i1
    go_enter Try.func38, Try.ntmps38
    go_wp2_with (go_at_call 48; refine (Try.strings_IndexByte _ _ _).mono ?_; rintro e w' ⟨rfl, rfl⟩)
    go_ret
    exact ⟨rfl, Below.refl _ _⟩
  · have HU : Aside (s.data.toList.take i ++ Pl.un k (s.data.toList.drop i) = Pl.un k s.data.toList) := un_take k _ i i3
    have HW : Aside (Pl.wf (s.data.toList.drop i) = true) := wf_drop _ i i3 hw
    have HI : Aside (Lib.indexByte s.data.toList 37 = (i : Int)) := i1
    have i2 : i < s.size := by omega
    clear i1 i3 hw hsz
    go_enter Try.func38, Try.ntmps38
    go_wp2_with (first
      | (go_at_call 48; refine (Try.strings_IndexByte _ _ _).mono ?_; rintro e w0 ⟨rfl, rfl⟩; rw [show ((37 : Int)).toNat.toUInt8 = 37 from rfl, HI.out])
      | (at_make; refine wpList_make_bytes _ rfl (.tmp 14) (.tmp 16) rfl w0.heap.size i s.size _ _ rfl rfl rfl rfl (by omega) (by omega) (Nat.le_refl _) ?_; intro v w1 hob hbel; obtain ⟨w2, hrun, hob2, hbel2⟩ := run_copy_str hob s (by rw [List.length_replicate]; omega)))
    have hB : Below w0.heap.size w0 w2 := hbel.trans hbel2
    rw [List.length_replicate] at hob2
    clear hrun hob hbel hbel2 HI
    go_loopg [5, 6] s.size (fun g iv bv wx => ∃ (j : Nat) (out : List UInt8), s.size - j ≤ g ∧ j ≤ s.size ∧ iv = .int .i64 j ∧ out.length ≤ j ∧ OB wx w0.heap.size bv out ∧ Below w0.heap.size w0 wx ∧ Pl.wf (s.data.toList.drop j) = true ∧ out ++ Pl.un k (s.data.toList.drop j) = Pl.un k s.data.toList)
    case atStart => exact ⟨i, s.data.toList.take i, by omega, by omega, rfl, List.length_take_le _ _, hob2, hB, HW.out, HU.out⟩
    case round =>
      clear hob2 hB HW HU
      obtain ⟨j, out, hg, hj, rfl, hol, hob, hB, hw, hu⟩ := hrel
      have HW : Aside (Pl.wf (s.data.toList.drop j) = true) := hw
      have HU : Aside (out ++ Pl.un k (s.data.toList.drop j) = Pl.un k s.data.toList) := hu
      clear hw hu
      by_cases hlt : j < s.size
      · cases hd : s.data.toList.drop j with
        | nil => rw [drop_cons hlt] at hd; cases hd
        | cons x t =>
          have hx := at_of_drop hd hlt
          have hki : (j : Int) < (s.size : Int) := by omega
          have HD : Aside (s.data.toList.drop j = x :: t) := hd
          by_cases h37 : x = 37
          · subst h37
            have hw := HW.out
            rw [HD.out] at hw
            obtain ⟨y, z, t', rfl, e1, e2, hw'⟩ := Pl.wf_pct_inv hw
            have HW' : Aside (Pl.wf t' = true) := hw'
            have hsz := drop_size hd (by simp)
            simp only [List.length_cons] at hsz
            have h2 : ((j : Int) + 2) < (s.size : Int) := by omega
            have d1 := drop_of_drop HD.out
            have d2 := drop_of_drop d1
            have d3 := drop_of_drop d2
            have hy := at_of_drop d1 (by omega)
            have hz : s[j + 2]'(by omega) = z := at_of_drop (k := j + 2) d2 (by omega)
            have HD1 : Aside (s.data.toList.drop (j + 1) = y :: z :: t') := d1
            have HD3 : Aside (s.data.toList.drop (j + 3) = t') := d3
            clear d1 d2 d3 hd hw hw'
            have wr1 : IntKind.i64.wrap ((j : Int) + 1) = (j : Int) + 1 := by rw [IntKind.wrap_i64]; omega
            have wr2 : IntKind.i64.wrap ((j : Int) + 2) = (j : Int) + 2 := by rw [IntKind.wrap_i64]; omega
            have ix1 : ((j : Int) + 1) < (s.size : Int) := by omega
            have ix0 : ¬ ((j : Int) + 1) < 0 := by omega
            have ix2 : ¬ ((j : Int) + 2) < 0 := by omega
            go_wp2_with fail
            go_quiet ((go_at_call 49; exact Calls.quiet_of_same (unhex_any _ (by assumption) _)))
            have hor := or_oct e1 e2
            cases ho : (Pl.oct y z == 47)
            · have hne := ne47 ho
              have HK : Aside ((k && Pl.oct y z == 47) = false) := by show _ = _; rw [ho]; simp
              clear ho
              go_wp2_with (at_builtin; refine wpList_append_byte (wr.drewN nq) rfl (.tmp 53) (.tmp 55) rfl w0.heap.size _ out (Pl.oct y z) _ rfl rfl rfl (hob.drewN nq) (by omega) hB.size ?_; intro v' w1 hob1 hbel1)
              go_roundg (s.size - (j + 3))
              case measure => omega
              case rel => exact ⟨j + 3, out ++ [Pl.oct y z], by omega, by omega, by go_num, by simp; omega, hob1, (below_drewN hB nq).trans hbel1, by rw [HD3.out]; exact HW'.out, by rw [HD3.out, ← HU.out, HD.out, Pl.un_pct k y z t' HK.out]; simp⟩
            · have hne := is47 ho
              cases k
              · have HK : Aside ((false && Pl.oct y z == 47) = false) := rfl
                clear ho
                go_wp2_with (at_builtin; refine wpList_append_byte (wr.drewN nq) rfl (.tmp 53) (.tmp 55) rfl w0.heap.size _ out (Pl.oct y z) _ rfl rfl rfl (hob.drewN nq) (by omega) hB.size ?_; intro v' w1 hob1 hbel1)
                go_roundg (s.size - (j + 3))
                case measure => omega
                case rel => exact ⟨j + 3, out ++ [Pl.oct y z], by omega, by omega, by go_num, by simp; omega, hob1, (below_drewN hB nq).trans hbel1, by rw [HD3.out]; exact HW'.out, by rw [HD3.out, ← HU.out, HD.out, Pl.un_pct false y z t' HK.out]; simp⟩
              · have HO : Aside ((Pl.oct y z == 47) = true) := ho
                clear ho
                go_wp2_with (at_builtin; refine wpList_append_byte (wr.drewN nq) rfl (.tmp 53) (.tmp 55) rfl w0.heap.size _ out 37 _ rfl rfl rfl (hob.drewN nq) (by omega) hB.size ?_; intro v' w1 hob1 hbel1)
                go_roundg (s.size - (j + 1))
                case measure => omega
                case rel => exact ⟨j + 1, out ++ [37], by omega, by omega, by go_num, by simp; omega, hob1, (below_drewN hB nq).trans hbel1, by rw [HD1.out, Pl.wf_plain (Pl.hex_ne e1), Pl.wf_plain (Pl.hex_ne e2)]; exact HW'.out, by rw [HD1.out, ← HU.out, HD.out, Pl.un_keep1 y z t' HO.out]; simp⟩
          · have hn := not37 h37
            clear hd
            go_wp2_with (at_builtin; refine wpList_append_byte wr rfl (.tmp 53) (.tmp 55) rfl w0.heap.size _ out x _ rfl rfl rfl hob (by omega) hB.size ?_; intro v' w1 hob1 hbel1)
            go_roundg (s.size - (j + 1))
            case measure => omega
            case rel => exact ⟨j + 1, out ++ [x], by omega, by omega, by go_num, by simp; omega, hob1, hB.trans hbel1, by rw [drop_of_drop HD.out, ← Pl.wf_plain h37, ← HD.out]; exact HW.out, by rw [drop_of_drop HD.out, ← HU.out, HD.out, Pl.un_plain k h37]; simp⟩
      · have hu := HU.out
        rw [drop_end hlt, Pl.un_nil, List.append_nil] at hu
        have hcv := run_string_of hob
        rw [hu] at hcv
        clear hu
        go_wp2_with fail
        go_ret
        exact ⟨rfl, hB⟩

theorem isb {x : UInt8} (c : UInt8) (h : x = c) : ((x.toNat : Int) == (c.toNat : Int)) = true := by rw [h]; simp
theorem notb {x : UInt8} (c : UInt8) (h : x ≠ c) : ((x.toNat : Int) == (c.toNat : Int)) = false := beq_eq_false_iff_ne.2 fun e => h (Pl.u8_eq.2 (by omega))

set_option maxRecDepth 100000 in
set_option maxHeartbeats 1000000 in
theorem zzun_any (s : ByteArray) (k : Bool) (hs : s.size ≤ 1073741824) (hw : Pl.wf s.data.toList = true) (w : World) :
    Calls Try.prog 13 #[.string s, .bool k] w fun e w' => e = .returned (.string (us k s)) ∧ Below w.heap.size w w' := by
  have HC : Aside (∀ w, Calls Try.prog 38 #[.string s, .bool k] w fun e w' => e = .returned (.string (us k s)) ∧ Below w.heap.size w w') := fun w => unesc_any s k hs hw w
  clear hw
  go_enter Try.func13, Try.ntmps13
  go_wp2_with fail
  refine (HC.out _).mono ?_
  rintro e w1 ⟨rfl, hb⟩
  go_wp2_with fail
  go_ret
  exact ⟨rfl, hb⟩

end Go.Proofs.Qxb6001154a
