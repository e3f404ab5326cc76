/-
  ptb1Encode, ptb1SlashesEncoded: what they compute.
-/
import Derived.Test.Qxb6001154aUnesc
namespace Go.Proofs.Qxb6001154a
open Go.RowKit

def en (u : Bool) (s : ByteArray) : ByteArray := ⟨(Pl.enc u s.data.toList).toArray⟩
theorem en_data (u : Bool) (s : ByteArray) : (en u s).data.toList = Pl.enc u s.data.toList := rfl
def sle (u : Bool) (s : ByteArray) : ByteArray := ⟨(Pl.sl u s.data.toList).toArray⟩
theorem sle_data (u : Bool) (s : ByteArray) : (sle u s).data.toList = Pl.sl u s.data.toList := rfl

theorem take_snoc (s : ByteArray) (k : Nat) (h : k < s.size) : s.data.toList.take (k + 1) = s.data.toList.take k ++ [s[k]'h] := by
  rw [List.take_succ_eq_append_getElem (by rw [← Lib.size_eq]; exact h)]
  rfl
theorem take_all (s : ByteArray) (k : Nat) (h : ¬ k < s.size) : s.data.toList.take k = s.data.toList := List.take_of_length_le (by rw [← Lib.size_eq]; omega)

set_option maxRecDepth 100000 in
set_option maxHeartbeats 4000000 in
theorem enc_any (s : ByteArray) (u : Bool) (hs : s.size ≤ 1073741824) (w : World) :
    Calls Try.prog 12 #[.string s, .bool u] w fun e w' => e = .returned (.string (en u s)) ∧ Below w.heap.size w w' := by
  go_enter Try.func12, Try.ntmps12
  go_wp2_with (at_make; refine wpList_make_bytes _ rfl (.const (.int .i64 0)) (.tmp 10) rfl w.heap.size 0 (3 * s.size) _ _ rfl rfl rfl (by omega) (by omega) (by omega) (Nat.le_refl _) ?_; intro v w1 hob hbel)
  go_loopg [5, 6] s.size (fun g bv iv wx => ∃ j : Nat, s.size - j ≤ g ∧ j ≤ s.size ∧ iv = .int .i64 j ∧ OB wx w.heap.size bv (Pl.enc u (s.data.toList.take j)) ∧ Below w.heap.size w wx)
  case atStart => exact ⟨0, by omega, by omega, rfl, hob, hbel⟩
  case round =>
    clear hob hbel
    obtain ⟨j, hg, hj, rfl, hob, hB⟩ := hrel
    by_cases hlt : j < s.size
    · have hki : (j : Int) < (s.size : Int) := by omega
      have hts := take_snoc s j hlt
      obtain ⟨x, hx⟩ : ∃ x : UInt8, s[j]'hlt = x := ⟨_, rfl⟩
      rw [hx] at hts
      have HT : Aside (s.data.toList.take (j + 1) = s.data.toList.take j ++ [x]) := hts
      have hel := Pl.enc_length u (s.data.toList.take j)
      have hel2 : (s.data.toList.take j).length ≤ j := List.length_take_le _ _
      have hlen : (Pl.enc u (s.data.toList.take j)).length ≤ 3 * j := by omega
      clear hts hel hel2
      generalize hout : Pl.enc u (s.data.toList.take j) = out at *
      have HOUT : Aside (Pl.enc u (s.data.toList.take j) = out) := hout
      clear hout
      have hx256 : (x.toNat : Int) < 256 := by have := UInt8.toNat_lt x; omega
      go_wp2_with (at_builtin; refine wpList_append_byte wr rfl (.tmp 21) (.tmp 22) rfl w.heap.size _ out 37 _ rfl rfl rfl hob (by omega) hB.size ?_; intro v1 w1 hob1 hb1)
      rw [show ((x.toNat : Int) / 16) = ((x.toNat / 16 : Nat) : Int) from by omega]
      refine (hexdigit_any _ u (by omega) _).mono ?_
      rintro e w2 ⟨rfl, rfl⟩
      go_wp2_with (at_builtin; refine wpList_append_byte w2 rfl (.tmp 24) (.tmp 29) rfl w.heap.size _ (out ++ [37]) (Pl.hd u (x.toNat / 16)) _ rfl rfl rfl hob1 (by simp; omega) (hB.trans hb1).size ?_; intro v2 w3 hob2 hb2)
      rw [show ((x.toNat : Int) % 16) = ((x.toNat % 16 : Nat) : Int) from by omega]
      refine (hexdigit_any _ u (by omega) _).mono ?_
      rintro e w4 ⟨rfl, rfl⟩
      go_wp2_with (at_builtin; refine wpList_append_byte w4 rfl (.tmp 31) (.tmp 36) rfl w.heap.size _ (out ++ [37] ++ [Pl.hd u (x.toNat / 16)]) (Pl.hd u (x.toNat % 16)) _ rfl rfl rfl hob2 (by simp; omega) ((hB.trans hb1).trans hb2).size ?_; intro v3 w5 hob3 hb3)
      go_roundg (s.size - (j + 1))
      case measure => omega
      case rel =>
        refine ⟨j + 1, by omega, by omega, by go_num, ?_, ((hB.trans hb1).trans hb2).trans hb3⟩
        rw [HT.out, Pl.enc_snoc, HOUT.out]
        simpa using hob3
    · have hcv := run_string_of hob
      rw [take_all s j hlt] at hcv
      go_wp2_with fail
      go_ret
      exact ⟨rfl, hB⟩

theorem isb47 {x : UInt8} (h : x = 47) : ((x.toNat : Int) == 47) = true := isb 47 h
theorem notb47 {x : UInt8} (h : x ≠ 47) : ((x.toNat : Int) == 47) = false := notb 47 h

set_option maxRecDepth 100000 in
set_option maxHeartbeats 4000000 in
theorem slash_any (s : ByteArray) (u : Bool) (hs : s.size ≤ 1073741824) (w : World) :
    Calls Try.prog 14 #[.string s, .bool u] w fun e w' => e = .returned (.string (sle u s)) ∧ Below w.heap.size w w' := by
  go_enter Try.func14, Try.ntmps14
  go_wp2_with (at_make; refine wpList_make_bytes _ rfl (.const (.int .i64 0)) (.tmp 9) rfl w.heap.size 0 (3 * s.size) _ _ rfl rfl rfl (by omega) (by omega) (by omega) (Nat.le_refl _) ?_; intro v w1 hob hbel)
  go_loopg [5, 6] s.size (fun g bv iv wx => ∃ j : Nat, s.size - j ≤ g ∧ j ≤ s.size ∧ iv = .int .i64 j ∧ OB wx w.heap.size bv (Pl.sl u (s.data.toList.take j)) ∧ Below w.heap.size w wx)
  case atStart => exact ⟨0, by omega, by omega, rfl, hob, hbel⟩
  case round =>
    clear hob hbel
    obtain ⟨j, hg, hj, rfl, hob, hB⟩ := hrel
    by_cases hlt : j < s.size
    · have hki : (j : Int) < (s.size : Int) := by omega
      have hts := take_snoc s j hlt
      obtain ⟨x, hx⟩ : ∃ x : UInt8, s[j]'hlt = x := ⟨_, rfl⟩
      rw [hx] at hts
      have HT : Aside (s.data.toList.take (j + 1) = s.data.toList.take j ++ [x]) := hts
      have hel := Pl.sl_le u (s.data.toList.take j)
      have hel2 : (s.data.toList.take j).length ≤ j := List.length_take_le _ _
      have hlen : (Pl.sl u (s.data.toList.take j)).length ≤ 3 * j := by omega
      clear hts hel hel2
      generalize hout : Pl.sl u (s.data.toList.take j) = out at *
      have HOUT : Aside (Pl.sl u (s.data.toList.take j) = out) := hout
      clear hout
      by_cases h47 : x = 47
      · have hb47 := isb47 h47
        have H47 : Aside (x = 47) := h47
        clear h47
        go_wp2_with (first
          | (at_builtin; refine wpList_append_byte wr rfl (.tmp 21) (.tmp 22) rfl w.heap.size _ out 37 _ rfl rfl rfl hob (by omega) hB.size ?_; intro v1 w1 hob1 hb1)
          | (at_builtin; refine wpList_append_byte w1 rfl (.tmp 24) (.tmp 25) rfl w.heap.size _ (out ++ [37]) 50 _ rfl rfl rfl hob1 (by simp; omega) (hB.trans hb1).size ?_; intro v2 w2 hob2 hb2))
        refine (hexdigit_any 15 u (by omega) _).mono ?_
        rintro e w4 ⟨rfl, rfl⟩
        go_wp2_with (at_builtin; refine wpList_append_byte w4 rfl (.tmp 27) (.tmp 30) rfl w.heap.size _ (out ++ [37] ++ [50]) (Pl.hd u 15) _ rfl rfl rfl hob2 (by simp; omega) ((hB.trans hb1).trans hb2).size ?_; intro v3 w5 hob3 hb3)
        go_roundg (s.size - (j + 1))
        case measure => omega
        case rel =>
          refine ⟨j + 1, by omega, by omega, by go_num, ?_, ((hB.trans hb1).trans hb2).trans hb3⟩
          rw [HT.out, Pl.sl_snoc, HOUT.out, H47.out]
          show OB _ _ _ (out ++ [37, 50, Pl.hd u 15])
          simpa using hob3
      · have hb47 := notb47 h47
        go_wp2_with (at_builtin; refine wpList_append_byte wr rfl (.tmp 32) (.tmp 36) rfl w.heap.size _ out x _ rfl rfl rfl hob (by omega) hB.size ?_; intro v1 w1 hob1 hb1)
        go_roundg (s.size - (j + 1))
        case measure => omega
        case rel =>
          refine ⟨j + 1, by omega, by omega, by go_num, ?_, hB.trans hb1⟩
          have e : Pl.sl1 u x = [x] := by
            unfold Pl.sl1
            rw [if_neg (by simpa using h47)]
          rw [HT.out, Pl.sl_snoc, HOUT.out, e]
          exact hob1
    · have hcv := run_string_of hob
      rw [take_all s j hlt] at hcv
      go_wp2_with fail
      go_ret
      exact ⟨rfl, hB⟩

end Go.Proofs.Qxb6001154a
