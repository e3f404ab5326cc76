/-
  SLICES OF STRINGS THAT ARE READ: the bound functions, ptb1SumLen, ptb1AllWellFormed.
-/
import Derived.Test.Qxb6001154aHex
namespace Go.Proofs.Qxb6001154a
open Go.RowKit

/-- The strings ss lie at ao. -/
def SR (w : World) (ao : Option Addr) (ss : List ByteArray) : Prop := ∀ j (h : j < ss.length), ∃ b o, ao = some ⟨b, o, none⟩ ∧ w.cell? ⟨b, o + j, none⟩ = some (.string ss[j])

theorem SR.later {w w' : World} {ao : Option Addr} {ss : List ByteArray} (h : SR w ao ss) {D : Nat} (hb : Below D w w') (hD : ∀ b o, 0 < ss.length → ao = some ⟨b, o, none⟩ → b < D) : SR w' ao ss := by
  intro j hj
  obtain ⟨b, o, e, hc⟩ := h j hj
  exact ⟨b, o, e, (hb.cell (p := ⟨b, o + j, none⟩) (hD b o (by omega) e)).trans hc⟩
theorem SR.lt {w : World} {ao : Option Addr} {ss : List ByteArray} (h : SR w ao ss) : ∀ b o, 0 < ss.length → ao = some ⟨b, o, none⟩ → b < w.heap.size := by
  intro b o hl e
  obtain ⟨b', o', e', hc⟩ := h 0 hl
  rw [e] at e'
  simp only [Option.some.injEq, Addr.mk.injEq, and_true] at e'
  obtain ⟨rfl, rfl⟩ := e'
  exact World.block_lt_of_cell? w _ hc
theorem SR.later' {w w' : World} {ao : Option Addr} {ss : List ByteArray} (h : SR w ao ss) (hb : Below w.heap.size w w') : SR w' ao ss := h.later hb h.lt

theorem take_get {ss : List ByteArray} {j : Nat} (h : j < ss.length) : ss.take (j + 1) = ss.take j ++ [ss[j]] := List.take_succ_eq_append_getElem h

def fit (ss : List ByteArray) : Prop := ∀ s ∈ ss, s.size ≤ 1048576
theorem fit_snoc {ss : List ByteArray} {j : Nat} (h : j < ss.length) {s : ByteArray} (hs : ss[j] = s) (hf : fit (ss.take j)) (hz : s.size ≤ 1048576) : fit (ss.take (j + 1)) := by
  rw [take_get h, hs]
  intro x hx
  rcases List.mem_append.1 hx with hx | hx
  · exact hf x hx
  · rw [List.mem_singleton.1 hx]; exact hz

set_option maxRecDepth 100000 in
set_option maxHeartbeats 2000000 in
theorem bytes27 (a0 a1 : Option Addr) (c0 c1 : Nat) (ss0 ss1 : List ByteArray) (w : World) (h0 : SR w a0 ss0) (h1 : SR w a1 ss1) (l0 : ss0.length ≤ maxLen) (l1 : ss1.length ≤ maxLen) :
    Calls Try.prog 27 #[.slice a0 ss0.length c0, .slice a1 ss1.length c1] w fun e w' => (∃ b : Bool, e = .returned (.bool b) ∧ (b = true → fit ss0 ∧ fit ss1)) ∧ w' = w := by
  unfold maxLen at l0 l1
  have H0 : Aside (SR w a0 ss0) := h0
  have H1 : Aside (SR w a1 ss1) := h1
  clear h0 h1
  go_enter Try.func27, Try.ntmps27
  by_cases g0 : ss0.length ≤ 1048576
  · go_wp2_with fail
    go_loopg [5, 6] ss0.length (fun g zv iv wx => ∃ j n : Nat, ss0.length - j ≤ g ∧ j ≤ ss0.length ∧ n ≤ 1048576 ∧ zv = .int .i64 n ∧ iv = .int .i64 j ∧ fit (ss0.take j) ∧ wx = w)
    case atStart => exact ⟨0, ss0.length, by omega, by omega, by omega, rfl, rfl, by simp [fit], rfl⟩
    case round =>
      obtain ⟨j, n, hg, hj, hn, rfl, rfl, hf, rfl⟩ := hrel
      have HF : Aside (fit (ss0.take j)) := hf
      clear hf
      by_cases hlt : j < ss0.length
      · obtain ⟨b, o, rfl, hc⟩ := H0.out j hlt
        obtain ⟨s, hs⟩ : ∃ s, ss0[j]'hlt = s := ⟨_, rfl⟩
        rw [hs] at hc
        have HS : Aside (ss0[j]'hlt = s) := hs
        clear hs
        by_cases hz : s.size ≤ 1048576
        · by_cases hz2 : n + s.size ≤ 1048576
          · go_wp2_with fail
            go_roundg (ss0.length - (j + 1))
            case measure => omega
            case rel => exact ⟨j + 1, n + s.size, by omega, by omega, by omega, by go_num, by go_num, fit_snoc hlt HS.out HF.out hz, rfl⟩
          · go_wp2_with fail
            go_ret
            exact ⟨⟨false, rfl, fun h => by cases h⟩, rfl⟩
        · go_wp2_with fail
          go_ret
          exact ⟨⟨false, rfl, fun h => by cases h⟩, rfl⟩
      · have hf0 := HF.out
        rw [List.take_of_length_le (by omega)] at hf0
        have HF0 : Aside (fit ss0) := hf0
        clear hf0 HF
        by_cases g1 : ss1.length ≤ 1048576
        · by_cases g2 : n + ss1.length ≤ 1048576
          · go_wp2_with fail
            go_loopg [5, 7] ss1.length (fun g zv iv wx => ∃ j n : Nat, ss1.length - j ≤ g ∧ j ≤ ss1.length ∧ n ≤ 1048576 ∧ zv = .int .i64 n ∧ iv = .int .i64 j ∧ fit (ss1.take j) ∧ wx = wr)
            case atStart => exact ⟨0, n + ss1.length, by omega, by omega, by omega, by go_num, rfl, by simp [fit], rfl⟩
            case round =>
              clear hg hj hn hlt g2
              obtain ⟨j2, n2, hg, hj, hn, rfl, rfl, hf, rfl⟩ := hrel
              have HF : Aside (fit (ss1.take j2)) := hf
              clear hf
              by_cases hlt : j2 < ss1.length
              · obtain ⟨b, o, rfl, hc⟩ := H1.out j2 hlt
                obtain ⟨s, hs⟩ : ∃ s, ss1[j2]'hlt = s := ⟨_, rfl⟩
                rw [hs] at hc
                have HS : Aside (ss1[j2]'hlt = s) := hs
                clear hs
                by_cases hz : s.size ≤ 1048576
                · by_cases hz2 : n2 + s.size ≤ 1048576
                  · go_wp2_with fail
                    go_roundg (ss1.length - (j2 + 1))
                    case measure => omega
                    case rel => exact ⟨j2 + 1, n2 + s.size, by omega, by omega, by omega, by go_num, by go_num, fit_snoc hlt HS.out HF.out hz, rfl⟩
                  · go_wp2_with fail
                    go_ret
                    exact ⟨⟨false, rfl, fun h => by cases h⟩, rfl⟩
                · go_wp2_with fail
                  go_ret
                  exact ⟨⟨false, rfl, fun h => by cases h⟩, rfl⟩
              · have hf1 := HF.out
                rw [List.take_of_length_le (by omega)] at hf1
                have HF1 : Aside (fit ss1) := hf1
                clear hf1 HF
                go_wp2_with fail
                go_ret
                exact ⟨⟨true, rfl, fun _ => ⟨HF0.out, HF1.out⟩⟩, rfl⟩
          · go_wp2_with fail
            go_ret
            exact ⟨⟨false, rfl, fun h => by cases h⟩, rfl⟩
        · go_wp2_with fail
          go_ret
          exact ⟨⟨false, rfl, fun h => by cases h⟩, rfl⟩
  · go_wp2_with fail
    go_ret
    exact ⟨⟨false, rfl, fun h => by cases h⟩, rfl⟩

set_option maxRecDepth 100000 in
set_option maxHeartbeats 2000000 in
theorem bytes19 (a0 : Option Addr) (c0 : Nat) (ss0 : List ByteArray) (vb : ByteArray) (u : Bool) (w : World) (h0 : SR w a0 ss0) (l0 : ss0.length ≤ maxLen) (l1 : vb.size ≤ maxLen) :
    Calls Try.prog 19 #[.slice a0 ss0.length c0, .string vb, .bool u] w fun e w' => (∃ b : Bool, e = .returned (.bool b) ∧ (b = true → fit ss0 ∧ vb.size ≤ 1048576)) ∧ w' = w := by
  unfold maxLen at l0 l1
  have H0 : Aside (SR w a0 ss0) := h0
  clear h0
  go_enter Try.func19, Try.ntmps19
  by_cases g0 : ss0.length ≤ 1048576
  · go_wp2_with fail
    go_loopg [7, 8] ss0.length (fun g zv iv wx => ∃ j n : Nat, ss0.length - j ≤ g ∧ j ≤ ss0.length ∧ n ≤ 1048576 ∧ zv = .int .i64 n ∧ iv = .int .i64 j ∧ fit (ss0.take j) ∧ wx = w)
    case atStart => exact ⟨0, ss0.length, by omega, by omega, by omega, rfl, rfl, by simp [fit], rfl⟩
    case round =>
      obtain ⟨j, n, hg, hj, hn, rfl, rfl, hf, rfl⟩ := hrel
      have HF : Aside (fit (ss0.take j)) := hf
      clear hf
      by_cases hlt : j < ss0.length
      · obtain ⟨b, o, rfl, hc⟩ := H0.out j hlt
        obtain ⟨s, hs⟩ : ∃ s, ss0[j]'hlt = s := ⟨_, rfl⟩
        rw [hs] at hc
        have HS : Aside (ss0[j]'hlt = s) := hs
        clear hs
        by_cases hz : s.size ≤ 1048576
        · by_cases hz2 : n + s.size ≤ 1048576
          · go_wp2_with fail
            go_roundg (ss0.length - (j + 1))
            case measure => omega
            case rel => exact ⟨j + 1, n + s.size, by omega, by omega, by omega, by go_num, by go_num, fit_snoc hlt HS.out HF.out hz, rfl⟩
          · go_wp2_with fail
            go_ret
            exact ⟨⟨false, rfl, fun h => by cases h⟩, rfl⟩
        · go_wp2_with fail
          go_ret
          exact ⟨⟨false, rfl, fun h => by cases h⟩, rfl⟩
      · have hf0 := HF.out
        rw [List.take_of_length_le (by omega)] at hf0
        have HF0 : Aside (fit ss0) := hf0
        clear hf0 HF
        by_cases g1 : vb.size ≤ 1048576
        · by_cases g2 : n + vb.size ≤ 1048576
          · go_wp2_with fail
            go_ret
            exact ⟨⟨true, rfl, fun _ => ⟨HF0.out, g1⟩⟩, rfl⟩
          · go_wp2_with fail
            go_ret
            exact ⟨⟨false, rfl, fun h => by cases h⟩, rfl⟩
        · go_wp2_with fail
          go_ret
          exact ⟨⟨false, rfl, fun h => by cases h⟩, rfl⟩
  · go_wp2_with fail
    go_ret
    exact ⟨⟨false, rfl, fun h => by cases h⟩, rfl⟩

def tot (ss : List ByteArray) : Nat := (ss.map (·.size)).sum
theorem tot_snoc {ss : List ByteArray} {j : Nat} (h : j < ss.length) {s : ByteArray} (hs : ss[j] = s) : tot (ss.take (j + 1)) = tot (ss.take j) + s.size := by
  rw [take_get h, hs]
  unfold tot
  simp

set_option maxRecDepth 100000 in
set_option maxHeartbeats 2000000 in
theorem sumlen_any (a0 : Option Addr) (c0 : Nat) (ss0 : List ByteArray) (w : World) (h0 : SR w a0 ss0) (l0 : ss0.length ≤ 65536) (hf : fit ss0) :
    Calls Try.prog 20 #[.slice a0 ss0.length c0] w fun e w' => (∃ n : Nat, e = .returned (.int .i64 n) ∧ n ≤ 4194304 ∧ (n ≤ 2097152 → n = 16 * ss0.length + tot ss0)) ∧ w' = w := by
  have H0 : Aside (SR w a0 ss0) := h0
  have HF : Aside (fit ss0) := hf
  clear h0 hf
  go_enter Try.func20, Try.ntmps20
  go_wp2_with fail
  go_loopg [3, 4] ss0.length (fun g zv iv wx => ∃ j n : Nat, ss0.length - j ≤ g ∧ j ≤ ss0.length ∧ n ≤ 2097152 ∧ zv = .int .i64 n ∧ iv = .int .i64 j ∧ n = 16 * ss0.length + tot (ss0.take j) ∧ wx = w)
  case atStart => exact ⟨0, 16 * ss0.length, by omega, by omega, by omega, by go_num, rfl, by simp [tot], rfl⟩
  case round =>
    obtain ⟨j, n, hg, hj, hn, rfl, rfl, hq, rfl⟩ := hrel
    have HQ : Aside (n = 16 * ss0.length + tot (ss0.take j)) := hq
    clear hq
    by_cases hlt : j < ss0.length
    · obtain ⟨b, o, rfl, hc⟩ := H0.out j hlt
      obtain ⟨s, hs⟩ : ∃ s, ss0[j]'hlt = s := ⟨_, rfl⟩
      have hz := HF.out _ (List.getElem_mem hlt)
      rw [hs] at hc hz
      have HS : Aside (ss0[j]'hlt = s) := hs
      clear hs
      by_cases hz2 : n + s.size ≤ 2097152
      · go_wp2_with fail
        go_roundg (ss0.length - (j + 1))
        case measure => omega
        case rel => exact ⟨j + 1, n + s.size, by omega, by omega, by omega, by go_num, by go_num, by rw [tot_snoc hlt HS.out, HQ.out]; omega, rfl⟩
      · go_wp2_with fail
        go_ret
        exact ⟨⟨n + s.size, by go_num, by omega, fun h => by omega⟩, rfl⟩
    · have hq := HQ.out
      rw [List.take_of_length_le (by omega)] at hq
      have HQ2 : Aside (n = 16 * ss0.length + tot ss0) := hq
      clear hq
      go_wp2_with fail
      go_ret
      exact ⟨⟨n, rfl, by omega, fun _ => HQ2.out⟩, rfl⟩

def allwf (ss : List ByteArray) : Bool := ss.all fun s => Pl.wf s.data.toList
theorem allwf_get {ss : List ByteArray} (h : allwf ss = true) {j : Nat} (hj : j < ss.length) : Pl.wf ss[j].data.toList = true := List.all_eq_true.1 h _ (List.getElem_mem hj)

set_option maxRecDepth 100000 in
set_option maxHeartbeats 2000000 in
theorem allwf_any (a0 : Option Addr) (c0 : Nat) (ss0 : List ByteArray) (w : World) (h0 : SR w a0 ss0) (l0 : ss0.length ≤ 65536) (hf : fit ss0) :
    Calls Try.prog 21 #[.slice a0 ss0.length c0] w fun e w' => e = .returned (.bool (allwf ss0)) ∧ w' = w := by
  have H0 : Aside (SR w a0 ss0) := h0
  have HF : Aside (fit ss0) := hf
  clear h0 hf
  go_enter Try.func21, Try.ntmps21
  go_wp2_with fail
  go_loopg [3] ss0.length (fun g iv wx => ∃ j : Nat, ss0.length - j ≤ g ∧ j ≤ ss0.length ∧ iv = .int .i64 j ∧ allwf (ss0.take j) = true ∧ wx = w)
  case atStart => exact ⟨0, by omega, by omega, rfl, rfl, rfl⟩
  case round =>
    obtain ⟨j, hg, hj, rfl, hq, rfl⟩ := hrel
    have HQ : Aside (allwf (ss0.take j) = true) := hq
    clear hq
    by_cases hlt : j < ss0.length
    · obtain ⟨b, o, rfl, hc⟩ := H0.out j hlt
      obtain ⟨s, hs⟩ : ∃ s, ss0[j]'hlt = s := ⟨_, rfl⟩
      have hz := HF.out _ (List.getElem_mem hlt)
      rw [hs] at hc hz
      have HS : Aside (ss0[j]'hlt = s) := hs
      clear hs
      cases hw : Pl.wf s.data.toList
      · have he : allwf ss0 = false := by
          cases ha : allwf ss0
          · rfl
          · have := allwf_get ha hlt
            rw [HS.out, hw] at this
            cases this
        have HE : Aside (allwf ss0 = false) := he
        have HW : Aside (∀ w, Calls Try.prog 16 #[.string s] w fun e w' => e = .returned (.bool false) ∧ w' = w) := fun w => by rw [← hw]; exact wf_any s hz w
        clear he hw
        go_wp2_with fail
        refine (HW.out _).mono ?_
        rintro e w1 ⟨rfl, rfl⟩
        go_wp2_with fail
        go_ret
        exact ⟨by rw [HE.out]; rfl, rfl⟩
      · have HW : Aside (∀ w, Calls Try.prog 16 #[.string s] w fun e w' => e = .returned (.bool true) ∧ w' = w) := fun w => by rw [← hw]; exact wf_any s hz w
        have HW2 : Aside (Pl.wf s.data.toList = true) := hw
        clear hw
        go_wp2_with fail
        refine (HW.out _).mono ?_
        rintro e w1 ⟨rfl, rfl⟩
        go_wp2_with fail
        go_roundg (ss0.length - (j + 1))
        case measure => omega
        case rel =>
          refine ⟨j + 1, by omega, by omega, by go_num, ?_, rfl⟩
          have := HQ.out
          unfold allwf at this ⊢
          rw [take_get hlt, List.all_append, this, HS.out]
          simp [HW2.out]
    · have hq := HQ.out
      rw [List.take_of_length_le (by omega)] at hq
      have HE : Aside (allwf ss0 = true) := hq
      clear hq HQ
      go_wp2_with fail
      go_ret
      exact ⟨by rw [HE.out]; rfl, rfl⟩

end Go.Proofs.Qxb6001154a
