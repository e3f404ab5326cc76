import Derived.Test.Qxb6001149aShelf
import Derived.Test.Qxb6001149aPlain
import Derived.WalkKit
import Derived.Below
import Derived.Lib.OthersKept
import Derived.Lib.DecodeN
import Derived.Laws.Runes
import Derived.Deep.LoopGhost
import Derived.Deep.QuietTactic
import Derived.BigQuiet
import Derived.WalkSmall
namespace Go.Proofs.Qxb6001149a
open Go.RowKit

set_option maxRecDepth 100000 in
set_option maxHeartbeats 1000000 in
theorem indexRune_err (w : World) :
    Calls Try.prog 18 #[.string ⟨#[10, 13]⟩, .int .i32 65533] w fun e w' => e = .returned (.int .i64 (-1)) ∧ Below w.heap.size w w' := by
  go_enter Try.func18, Try.ntmps18
  go_wp2_with fail
  go_loopg [5] 2 (fun g _ wx => ∃ i : Nat, i + g = 2 ∧ wx = w.iter ⟨#[10, 13]⟩ i)
  case atStart => exact ⟨0, by omega, rfl⟩
  case round =>
    obtain ⟨i, hig, rfl⟩ := hrel
    match gk, i, hig with
    | 2, 0, _ =>
      have hnx := fun ty => run_next_ascii (P := Try.prog) w ⟨#[10, 13]⟩ 0 ty (by decide) (by decide)
      go_wp2_with fail
      go_roundg 1
      case measure => omega
      case rel => exact ⟨1, by omega, rfl⟩
    | 1, 1, _ =>
      have hnx := fun ty => run_next_ascii (P := Try.prog) w ⟨#[10, 13]⟩ 1 ty (by decide) (by decide)
      go_wp2_with fail
      go_roundg 0
      case measure => omega
      case rel => exact ⟨2, by omega, rfl⟩
    | 0, 2, _ =>
      have hnx := run_next_end (P := Try.prog) w ⟨#[10, 13]⟩ 2
      go_wp2_with fail
      go_ret
      exact ⟨rfl, (Below.refl _ _).alloc (Nat.le_refl _) _⟩

set_option maxRecDepth 100000 in
set_option maxHeartbeats 1000000 in
theorem indexRune_bad (r : Int) (h : 128 ≤ r) (hne : (r == 65533) = false) (hv : Lib.validRune r = false) (w : World) :
    Calls Try.prog 18 #[.string ⟨#[10, 13]⟩, .int .i32 r] w fun e w' => e = .returned (.int .i64 (-1)) ∧ w' = w := by
  have h1 : decide (0 ≤ r) = true := decide_eq_true (by omega)
  have h2 : decide (r < 128) = false := decide_eq_false (by omega)
  go_enter Try.func18, Try.ntmps18
  go_wp2_with (go_at_call 23; refine (Try.utf8_ValidRune _ _).mono ?_; rintro e w' ⟨rfl, rfl⟩)
  go_ret
  exact ⟨rfl, rfl⟩

theorem two_of (rs : ByteArray) (h : rs.size = 2) (hb : ∀ h : rs.size - 1 < rs.size, 128 ≤ (rs[rs.size - 1]'h).toNat) : ∃ a b : UInt8, rs = ⟨#[a, b]⟩ ∧ 128 ≤ b.toNat := by
  obtain ⟨⟨l⟩⟩ := rs
  match l, h with
  | [a, b], _ => exact ⟨a, b, rfl, hb (by show 1 < 2; omega)⟩

set_option maxRecDepth 100000 in
set_option maxHeartbeats 1000000 in
theorem indexRune_two (r : Int) (a b : UInt8) (h : 128 ≤ r) (hne : (r == 65533) = false) (hv : Lib.validRune r = true) (hrs : Utf8.encode r = ⟨#[a, b]⟩) (hb : 128 ≤ b.toNat) (w : World) :
    Calls Try.prog 18 #[.string ⟨#[10, 13]⟩, .int .i32 r] w fun e w' => e = .returned (.int .i64 (-1)) ∧ Below w.heap.size w w' := by
  have h1 : decide (0 ≤ r) = true := decide_eq_true (by omega)
  have h2 : decide (r < 128) = false := decide_eq_false (by omega)
  have hb13 : ((((⟨#[10, 13]⟩ : ByteArray)[1]'(by decide)).toNat : Int) != (((⟨#[a, b]⟩ : ByteArray)[1]'(by show 1 < 2; omega)).toNat : Int)) = true := by
    rw [bne_iff_ne]; show ((13 : Nat) : Int) ≠ (b.toNat : Int); omega
  go_enter Try.func18, Try.ntmps18
  go_wp2_with (go_at_call 23; refine (Try.utf8_ValidRune _ _).mono ?_; rintro e w' ⟨rfl, rfl⟩)
  go_step3
  go_wp2_with fail
  go_loopg [9] 1 (fun _ i wx => i = .int .i64 1 ∧ wx = w')
  case atStart => exact ⟨rfl, rfl⟩
  case round =>
    obtain ⟨rfl, rfl⟩ := hrel
    go_wp2_with fail
    go_step3
    go_wp2_with fail
    go_quiet (fail)
    have hbel : Below wr.heap.size wr (wr.drewN nq) := below_drewN (Below.refl _ _) nq
    generalize wr.drewN nq = w1 at *
    go_wp2_with fail
    have hw2 : IntKind.i64.wrap 2 = 2 := by decide
    go_quiet ((go_at_call 13; exact Calls.quiet_of_same (Try.strings_IndexByte _ _ _)))
    go_wp2_with fail
    rw [Exit.noGoto_ret]
    go_wp2_with fail
    rw [Exit.noGoto_ret]
    go_wp2_with fail
    go_ret
    exact ⟨rfl, below_drewN hbel _⟩

set_option maxRecDepth 100000 in
set_option maxHeartbeats 1000000 in
theorem indexRune_more (r : Int) (rs : ByteArray) (h : 128 ≤ r) (hne : (r == 65533) = false) (hv : Lib.validRune r = true) (hrs : Utf8.encode r = rs) (h3 : 2 < rs.size) (h4 : rs.size ≤ 4) (w : World) :
    Calls Try.prog 18 #[.string ⟨#[10, 13]⟩, .int .i32 r] w fun e w' => e = .returned (.int .i64 (-1)) ∧ Below w.heap.size w w' := by
  have h1 : decide (0 ≤ r) = true := decide_eq_true (by omega)
  have h2 : decide (r < 128) = false := decide_eq_false (by omega)
  go_enter Try.func18, Try.ntmps18
  go_wp2_with (go_at_call 23; refine (Try.utf8_ValidRune _ _).mono ?_; rintro e w' ⟨rfl, rfl⟩)
  go_step3
  go_wp2_with fail
  go_loopg [9] 1 (fun _ i wx => i = .int .i64 ((rs.size : Int) - 1) ∧ wx = w')
  case atStart => exact ⟨rfl, rfl⟩
  case round =>
    obtain ⟨rfl, rfl⟩ := hrel
    have g1 : ¬ ((rs.size : Int) - 1) < 2 := by omega
    go_wp2_with fail
    try rw [Exit.noGoto_ret]
    go_ret
    exact ⟨rfl, Below.refl _ _⟩

theorem indexRune_good (r : Int) (h : 128 ≤ r) (hne : (r == 65533) = false) (hv : Lib.validRune r = true) (w : World) :
    Calls Try.prog 18 #[.string ⟨#[10, 13]⟩, .int .i32 r] w fun e w' => e = .returned (.int .i64 (-1)) ∧ Below w.heap.size w w' := by
  have hu : Utf8.valid r = true := by rw [validRune_eq]; exact hv
  obtain ⟨z1, z2, z3⟩ := encode_facts r hu h
  by_cases h2 : (Utf8.encode r).size = 2
  · obtain ⟨a, b, hab, hb⟩ := two_of _ h2 z3
    exact indexRune_two r a b h hne hv hab hb w
  · exact indexRune_more r _ h hne hv rfl (by omega) z2 w

theorem indexRune_high (r : Int) (h : 128 ≤ r) (w : World) :
    Calls Try.prog 18 #[.string ⟨#[10, 13]⟩, .int .i32 r] w fun e w' => e = .returned (.int .i64 (-1)) ∧ Below w.heap.size w w' := by
  by_cases he : r = 65533
  · subst he; exact indexRune_err w
  · have hne : (r == 65533) = false := beq_eq_false_iff_ne.2 he
    cases hv : Lib.validRune r
    · exact (indexRune_bad r h hne hv w).mono fun e w' ⟨h1, h2⟩ => ⟨h1, h2 ▸ Below.refl _ _⟩
    · exact indexRune_good r h hne hv w

/-! ### strings.IndexAny(s, "..") at the two line ends, s of at most eight bytes, whatever they are -/

/-- What the model's decoding takes at once, behind a byte from 128 on, are bytes from 128 on. -/
theorem decode_span (s : ByteArray) (pos : Nat) (h : pos < s.size) (ha : 128 ≤ (s[pos]'h).toNat) :
    pos + (Utf8.decode s pos).2 ≤ s.size ∧ ∀ (j : Nat) b, pos ≤ j → j < pos + (Utf8.decode s pos).2 → s.data.toList[j]? = some b → 128 ≤ b.toNat := by
  have hg : ∀ (k : Nat) (hk : k < s.size), s.get! k = s[k]'hk := fun k hk => get_at s k hk
  have hl : ∀ (k : Nat) b, s.data.toList[k]? = some b → ∃ hk : k < s.size, s[k]'hk = b := fun k b hb => by
    obtain ⟨hk, e⟩ := List.getElem?_eq_some_iff.1 hb
    exact ⟨by simpa using hk, by simp at e; exact e⟩
  rw [Lib.decode_at]
  have e0 := hg pos h
  rw [e0]
  have hb0 : ¬ (s[pos]'h).toNat < 128 := by omega
  unfold Lib.decodeN
  rw [if_neg hb0]
  have one : ∀ (j : Nat) b, pos ≤ j → j < pos + 1 → s.data.toList[j]? = some b → 128 ≤ b.toNat := by
    intro j b h1 h2 h3
    obtain rfl : j = pos := by omega
    obtain ⟨hk, rfl⟩ := hl _ _ h3
    exact ha
  split
  · rename_i hc
    split
    · refine ⟨by simp only; omega, ?_⟩
      intro j b h1 h2 h3
      simp only at h2
      by_cases hj : j = pos
      · exact one j b h1 (by omega) h3
      · obtain rfl : j = pos + 1 := by omega
        obtain ⟨hk, rfl⟩ := hl _ _ h3
        rw [hg _ hk] at hc
        omega
    · exact ⟨by simp only; omega, one⟩
  · split
    · rename_i hc
      split
      · refine ⟨by simp only; omega, ?_⟩
        intro j b h1 h2 h3
        simp only at h2
        by_cases hj : j = pos
        · exact one j b h1 (by omega) h3
        · by_cases hj1 : j = pos + 1
          · subst hj1
            obtain ⟨hk, rfl⟩ := hl _ _ h3
            rw [hg _ hk] at hc
            omega
          · obtain rfl : j = pos + 2 := by omega
            obtain ⟨hk, rfl⟩ := hl _ _ h3
            rw [hg _ hk] at hc
            omega
      · exact ⟨by simp only; omega, one⟩
    · split
      · rename_i hc
        split
        · refine ⟨by simp only; omega, ?_⟩
          intro j b h1 h2 h3
          simp only at h2
          by_cases hj : j = pos
          · exact one j b h1 (by omega) h3
          · by_cases hj1 : j = pos + 1
            · subst hj1
              obtain ⟨hk, rfl⟩ := hl _ _ h3
              rw [hg _ hk] at hc
              omega
            · by_cases hj2 : j = pos + 2
              · subst hj2
                obtain ⟨hk, rfl⟩ := hl _ _ h3
                rw [hg _ hk] at hc
                omega
              · obtain rfl : j = pos + 3 := by omega
                obtain ⟨hk, rfl⟩ := hl _ _ h3
                rw [hg _ hk] at hc
                omega
        · exact ⟨by simp only; omega, one⟩
      · exact ⟨by simp only; omega, one⟩

theorem noAny_span (s : ByteArray) (pos : Nat) (h : pos < s.size) (ha : 128 ≤ (s[pos]'h).toNat) (hn : Lib.NoAny s.data.toList [10, 13] pos) :
    Lib.NoAny s.data.toList [10, 13] (pos + (Utf8.decode s pos).2) := by
  intro j b hj hb
  by_cases hlt : j < pos
  · exact hn j b hlt hb
  · have := (decode_span s pos h ha).2 j b (by omega) hj hb
    have h1 : b ≠ 10 := by rintro rfl; simp at this
    have h2 : b ≠ 13 := by rintro rfl; simp at this
    simp [h1, h2]

set_option maxRecDepth 100000 in
set_option maxHeartbeats 1000000 in
theorem indexAny_short (s : ByteArray) (w : World) (h8 : s.size ≤ 8) :
    Calls Try.prog 15 #[.string s, .string ⟨#[10, 13]⟩] w fun e w' => e = .returned (.int .i64 (Lib.indexAny s.data.toList [10, 13])) ∧ Below w.heap.size w w' := by
  have h8z : decide ((8 : Int) < (s.size : Int)) = false := decide_eq_false (by omega)
  go_enter Try.func15, Try.ntmps15
  go_wp2_with (go_at_call 19; refine (Try.strings_shouldUseASCIISet _ _).mono ?_; rintro e w' ⟨rfl, hw⟩; rw [hw, h8z])
  go_loopg [9, 10] s.size (fun g _ _ wx => ∃ i : Nat, i ≤ s.size ∧ s.size - i = g ∧ wx.heap[w.heap.size]? = some (.stringIter s i) ∧ Below w.heap.size w wx ∧ Lib.NoAny s.data.toList [10, 13] i)
  case atStart => exact ⟨0, by omega, by omega, World.iter_heap _ _ _, (Below.refl _ _).alloc (Nat.le_refl _) _, Lib.NoAny.zero _ _⟩
  case round =>
    obtain ⟨i, hi, hig, hit, hbel, hno⟩ := hrel
    have HN : Aside (Lib.NoAny s.data.toList [10, 13] i) := hno
    have HT : Aside (wr.heap[w.heap.size]? = some (.stringIter s i)) := hit
    clear hno
    by_cases hlt : i < s.size
    · by_cases ha : (s[i]'hlt).toNat < 128
      · have hnx := fun ty => Lib.run_next_ascii_at (P := Try.prog) wr w.heap.size s i ty hit hlt ha
        clear hit
        obtain ⟨x, hx⟩ : ∃ x : UInt8, s[i]'hlt = x := ⟨_, rfl⟩
        have hxl : s.data.toList[i]? = some x := by rw [← hx]; exact Lib.data_getElem? s i hlt
        rw [hx] at hnx ha
        have Hx : Aside (s.data.toList[i]? = some x) := hxl
        clear hxl hx
        have hcon := Lib.contains_iff_indexByte [10, 13] x
        have hback : ((x.toNat : Int)).toNat.toUInt8 = x := by simp
        cases hin : ([10, 13] : List UInt8).contains x
        · rw [hin] at hcon
          have hlt2 : ¬ ((0 : Int) ≤ Lib.indexByte [10, 13] x) := of_decide_eq_false hcon.symm
          clear hcon
          go_wp2_with (go_at_call 18; refine (Try.strings_IndexRune_ascii _ _ _ (by omega) (by omega)).mono ?_; rintro e w' ⟨rfl, hw⟩; rw [hw, hback])
          go_roundg (s.size - (i + 1))
          case measure => omega
          case rel => exact ⟨i + 1, by omega, rfl, Lib.iterAt_heap _ _ _ _ _ HT.out, Lib.below_iterAt hbel (Nat.le_refl _) _ _, HN.out.succ Hx.out hin⟩
        · rw [hin] at hcon
          have hge : (0 : Int) ≤ Lib.indexByte [10, 13] x := of_decide_eq_true hcon.symm
          clear hcon
          go_wp2_with (go_at_call 18; refine (Try.strings_IndexRune_ascii _ _ _ (by omega) (by omega)).mono ?_; rintro e w' ⟨rfl, hw⟩; rw [hw, hback])
          go_ret
          exact ⟨by rw [Lib.indexAny_hit HN.out Hx.out hin]; rfl, Lib.below_iterAt hbel (Nat.le_refl _) _ _⟩
      · have hnx := fun ty => Lib.run_next_any_at (P := Try.prog) wr w.heap.size s i ty hit hlt
        have hsp := (decode_span s i hlt (by omega)).1
        have hns := noAny_span s i hlt (by omega) HN.out
        have hhi := decode_high s i hlt (by omega)
        clear hit ha
        generalize (Utf8.decode s i).1 = r at *
        generalize (Utf8.decode s i).2 = k at *
        have HNS : Aside (Lib.NoAny s.data.toList [10, 13] (i + k)) := hns
        clear hns
        go_wp2_with fail
        refine (indexRune_high _ (by omega) _).mono ?_
        rintro e w' ⟨rfl, hb'⟩
        go_wp2_with fail
        go_roundg (s.size - (i + k))
        case measure => omega
        case rel => exact ⟨i + k, by omega, rfl, (hb'.block _ (by rw [Lib.iterAt_size]; exact (Array.getElem?_eq_some_iff.1 HT.out).1)).trans (Lib.iterAt_heap _ _ _ _ _ HT.out), (Lib.below_iterAt hbel (Nat.le_refl _) _ _).trans (hb'.mono (by rw [Lib.iterAt_size]; exact hbel.size)), HNS.out⟩
    · have hnx := fun ty => Lib.run_next_end_at (P := Try.prog) wr w.heap.size s i ty hit hlt
      obtain rfl : i = s.size := by omega
      go_wp2_with fail
      go_ret
      exact ⟨by rw [Lib.indexAny_none (by rw [← Lib.size_eq]; exact HN.out)]; rfl, hbel⟩

theorem ascii_two : ∀ (j : Nat) b, (⟨#[10, 13]⟩ : ByteArray).data.toList[j]? = some b → b.toNat < 128 := by
  intro j b h
  have : b ∈ ([10, 13] : List UInt8) := List.mem_of_getElem? h
  simp at this
  rcases this with rfl | rfl <;> decide

theorem set34 : (Try.prog.info? 34).map (fun i => (i.zero, i.size)) = some (some (.agg (Array.replicate 256 (.bool false))), 256) := by kernel_rfl

theorem indexAny_any (s : ByteArray) (w : World) (hs : s.size < 4294967281) :
    Calls Try.prog 15 #[.string s, .string ⟨#[10, 13]⟩] w fun e w' => e = .returned (.int .i64 (Lib.indexAny s.data.toList [10, 13])) ∧ Below w.heap.size w w' := by
  by_cases h8 : s.size ≤ 8
  · exact indexAny_short s w h8
  · refine (Try.strings_IndexAny_long (zero_of_info set34).1 s ⟨#[10, 13]⟩ w (by decide) (by omega) hs (by decide) ascii_two).mono fun e w' ⟨h1, h2⟩ => ⟨h1, ?_⟩
    rw [h2]
    exact ((Below.refl _ _).alloc (Nat.le_refl _) _).alloc (by simp) _

end Go.Proofs.Qxb6001149a
