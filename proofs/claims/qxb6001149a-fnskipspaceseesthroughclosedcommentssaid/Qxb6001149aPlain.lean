/-
  THE PLAIN FUNCTIONS: what skipSpace leaves of a list of bytes. No program in this text.
-/
import Derived.Lib.IndexAny
import Derived.Lib.Strings
namespace Go.Proofs.Qxb6001149a.Pl

def blk (c : UInt8) : Bool := ([32, 9, 10, 13, 12] : List UInt8).contains c

/-- What is left behind a comment that stands open to depth d. -/
def com : Nat → List UInt8 → List UInt8
  | 0, l => l
  | _ + 1, [] => []
  | d + 1, a :: t =>
    match t with
    | [] => []
    | b :: t' =>
      if a == 47 && b == 42 then com (d + 2) t'
      else if a == 42 && b == 47 then com d t'
      else com (d + 1) (b :: t')

/-- What is left behind the first line end. -/
def line : List UInt8 → List UInt8
  | [] => []
  | a :: t => if a == 10 || a == 13 then t else line t

def skip : Nat → List UInt8 → List UInt8
  | 0, l => l
  | _ + 1, [] => []
  | n + 1, a :: t =>
    if blk a then skip n t
    else if Lib.hasPrefix (a :: t) [45, 45] then skip n (line (a :: t))
    else if Lib.hasPrefix (a :: t) [47, 42] then skip n (com 1 (t.drop 1))
    else a :: t

def sk (l : List UInt8) : List UInt8 := skip l.length l

theorem com_zero (l : List UInt8) : com 0 l = l := by cases l <;> rfl
theorem com_nil (d : Nat) : com d [] = [] := by cases d <;> rfl
theorem com_one (d : Nat) (a : UInt8) : com (d + 1) [a] = [] := rfl
theorem com_cons (d : Nat) (a b : UInt8) (t : List UInt8) : com (d + 1) (a :: b :: t) =
    if a == 47 && b == 42 then com (d + 2) t else if a == 42 && b == 47 then com d t else com (d + 1) (b :: t) := rfl


theorem com_le : ∀ (n d : Nat) (l : List UInt8), l.length ≤ n → (com d l).length ≤ l.length
  | _, 0, l, _ => by rw [com_zero]; exact Nat.le_refl _
  | _, d + 1, [], _ => by rw [com_nil]; exact Nat.le_refl _
  | _, d + 1, [a], _ => by rw [com_one]; exact Nat.zero_le _
  | 0, d + 1, a :: b :: t, h => by simp at h
  | n + 1, d + 1, a :: b :: t, h => by
    rw [com_cons]
    have h' : t.length + 1 ≤ n := by simpa using h
    have e1 := com_le n (d + 2) t (by omega)
    have e2 := com_le n d t (by omega)
    have e3 := com_le n (d + 1) (b :: t) (by simpa using h')
    simp only [List.length_cons] at *
    split
    · omega
    · split <;> omega

theorem line_le : ∀ l : List UInt8, (line l).length ≤ l.length
  | [] => Nat.le_refl _
  | a :: t => by
    rw [line]
    have := line_le t
    simp only [List.length_cons]
    split <;> omega

theorem line_lt (a : UInt8) (t : List UInt8) : (line (a :: t)).length ≤ t.length := by
  rw [line]
  split
  · exact Nat.le_refl _
  · exact line_le t

/-- The fuel does not matter where it suffices. -/
theorem skip_fuel : ∀ (n m : Nat) (l : List UInt8), l.length ≤ n → l.length ≤ m → skip n l = skip m l
  | 0, m, l, h, _ => by
    have : l = [] := List.length_eq_zero_iff.1 (by omega)
    subst this
    cases m <;> rfl
  | n + 1, 0, l, _, h => by
    have : l = [] := List.length_eq_zero_iff.1 (by omega)
    subst this
    rfl
  | n + 1, m + 1, [], _, _ => rfl
  | n + 1, m + 1, a :: t, h1, h2 => by
    simp only [List.length_cons] at h1 h2
    have l1 := line_lt a t
    have l2 := com_le _ 1 (t.drop 1) (Nat.le_refl _)
    have l3 : (t.drop 1).length ≤ t.length := by simp
    rw [skip, skip, skip_fuel n m t (by omega) (by omega), skip_fuel n m (line (a :: t)) (by omega) (by omega), skip_fuel n m (com 1 (t.drop 1)) (by omega) (by omega)]

theorem sk_nil : sk [] = [] := rfl
theorem sk_cons (a : UInt8) (t : List UInt8) : sk (a :: t) =
    if blk a then sk t else if Lib.hasPrefix (a :: t) [45, 45] then sk (line (a :: t))
    else if Lib.hasPrefix (a :: t) [47, 42] then sk (com 1 (t.drop 1)) else a :: t := by
  have l1 := line_lt a t
  have l2 := com_le _ 1 (t.drop 1) (Nat.le_refl _)
  have l3 : (t.drop 1).length ≤ t.length := by simp
  unfold sk
  rw [List.length_cons, skip, skip_fuel t.length (line (a :: t)).length _ (by omega) (Nat.le_refl _), skip_fuel t.length (com 1 (t.drop 1)).length _ (by omega) (Nat.le_refl _)]

theorem sk_blk {a : UInt8} {t : List UInt8} (h : blk a = true) : sk (a :: t) = sk t := by rw [sk_cons, if_pos h]
theorem sk_line {a : UInt8} {t : List UInt8} (h : blk a = false) (h1 : Lib.hasPrefix (a :: t) [45, 45] = true) : sk (a :: t) = sk (line (a :: t)) := by
  rw [sk_cons, if_neg (by rw [h]; exact Bool.false_ne_true), if_pos h1]
theorem sk_com {a : UInt8} {t : List UInt8} (h : blk a = false) (h1 : Lib.hasPrefix (a :: t) [45, 45] = false) (h2 : Lib.hasPrefix (a :: t) [47, 42] = true) :
    sk (a :: t) = sk (com 1 (t.drop 1)) := by
  rw [sk_cons, if_neg (by rw [h]; exact Bool.false_ne_true), if_neg (by rw [h1]; exact Bool.false_ne_true), if_pos h2]
theorem sk_stop {a : UInt8} {t : List UInt8} (h : blk a = false) (h1 : Lib.hasPrefix (a :: t) [45, 45] = false) (h2 : Lib.hasPrefix (a :: t) [47, 42] = false) :
    sk (a :: t) = a :: t := by
  rw [sk_cons, if_neg (by rw [h]; exact Bool.false_ne_true), if_neg (by rw [h1]; exact Bool.false_ne_true), if_neg (by rw [h2]; exact Bool.false_ne_true)]

/-! ### what is left is a suffix -/
theorem com_suffix : ∀ (n d : Nat) (l : List UInt8), l.length ≤ n → com d l <:+ l
  | _, 0, l, _ => by rw [com_zero]; exact List.suffix_refl _
  | _, d + 1, [], _ => by rw [com_nil]; exact List.suffix_refl _
  | _, d + 1, [a], _ => by rw [com_one]; exact List.nil_suffix
  | 0, d + 1, a :: b :: t, h => by simp at h
  | n + 1, d + 1, a :: b :: t, h => by
    rw [com_cons]
    have h' : t.length + 1 ≤ n := by simpa using h
    have e1 := com_suffix n (d + 2) t (by omega)
    have e2 := com_suffix n d t (by omega)
    have e3 := com_suffix n (d + 1) (b :: t) (by simpa using h')
    have s1 : t <:+ a :: b :: t := ⟨[a, b], rfl⟩
    have s2 : b :: t <:+ a :: b :: t := ⟨[a], rfl⟩
    split
    · exact e1.trans s1
    · split
      · exact e2.trans s1
      · exact e3.trans s2

theorem line_suffix : ∀ l : List UInt8, line l <:+ l
  | [] => List.suffix_refl _
  | a :: t => by
    rw [line]
    have s2 : t <:+ a :: t := ⟨[a], rfl⟩
    split
    · exact s2
    · exact (line_suffix t).trans s2

/-- What stands needs no more skipping. -/
def still (r : List UInt8) : Prop := r = [] ∨ ∃ a t, r = a :: t ∧ blk a = false ∧ Lib.hasPrefix r [45, 45] = false ∧ Lib.hasPrefix r [47, 42] = false

theorem sk_all : ∀ (n : Nat) (l : List UInt8), l.length ≤ n → sk l <:+ l ∧ still (sk l)
  | _, [], _ => ⟨List.suffix_refl _, Or.inl rfl⟩
  | 0, a :: t, h => by simp at h
  | n + 1, a :: t, h => by
    simp only [List.length_cons] at h
    have l1 := line_lt a t
    have l2 := com_le _ 1 (t.drop 1) (Nat.le_refl _)
    have l3 : (t.drop 1).length ≤ t.length := by simp
    have s0 : t <:+ a :: t := ⟨[a], rfl⟩
    cases hb : blk a
    · cases h1 : Lib.hasPrefix (a :: t) [45, 45]
      · cases h2 : Lib.hasPrefix (a :: t) [47, 42]
        · rw [sk_stop hb h1 h2]
          exact ⟨List.suffix_refl _, Or.inr ⟨a, t, rfl, hb, h1, h2⟩⟩
        · rw [sk_com hb h1 h2]
          have ih := sk_all n (com 1 (t.drop 1)) (by omega)
          exact ⟨ih.1.trans ((com_suffix _ 1 (t.drop 1) (Nat.le_refl _)).trans ((List.drop_suffix 1 t).trans s0)), ih.2⟩
      · rw [sk_line hb h1]
        have ih := sk_all n (line (a :: t)) (by omega)
        exact ⟨ih.1.trans (line_suffix _), ih.2⟩
    · rw [sk_blk hb]
      have ih := sk_all n t (by omega)
      exact ⟨ih.1.trans s0, ih.2⟩

theorem sk_suffix (l : List UInt8) : sk l <:+ l := (sk_all _ l (Nat.le_refl _)).1
theorem sk_still (l : List UInt8) : still (sk l) := (sk_all _ l (Nat.le_refl _)).2
theorem sk_of_still {r : List UInt8} (h : still r) : sk r = r := by
  rcases h with rfl | ⟨a, t, rfl, hb, h1, h2⟩
  · rfl
  · exact sk_stop hb h1 h2
theorem sk_sk (l : List UInt8) : sk (sk l) = sk l := sk_of_still (sk_still l)
theorem sk_le (l : List UInt8) : (sk l).length ≤ l.length := (sk_suffix l).length_le
theorem sk_drop (l : List UInt8) : l.drop (l.length - (sk l).length) = sk l := (List.suffix_iff_eq_drop.1 (sk_suffix l)).symm

/-! ### comments -/
theorem com_pass : ∀ (c x : List UInt8) (d : Nat), (∀ b ∈ c, b ≠ 47 ∧ b ≠ 42) → com (d + 1) (c ++ x) = com (d + 1) x
  | [], _, _, _ => rfl
  | a :: c, x, d, h => by
    have ha := h a (by simp)
    have ih := com_pass c x d (fun b hb => h b (by simp [hb]))
    rw [← ih, List.cons_append]
    cases hx : c ++ x with
    | nil => rw [com_one, com_nil]
    | cons b t => rw [com_cons, if_neg (by simp [ha.1]), if_neg (by simp [ha.2])]

theorem com_close (d : Nat) (x : List UInt8) : com (d + 1) (42 :: 47 :: x) = com d x := rfl
theorem com_open (d : Nat) (x : List UInt8) : com (d + 1) (47 :: 42 :: x) = com (d + 2) x := rfl

theorem com_nostar : ∀ (c : List UInt8) (d : Nat), (∀ b ∈ c, b ≠ 42) → com (d + 1) c = []
  | [], _, _ => rfl
  | [_], _, _ => rfl
  | a :: b :: c, d, h => by
    have ha := h a (by simp)
    have hb := h b (by simp)
    rw [com_cons, if_neg (by simp [hb]), if_neg (by simp [ha])]
    exact com_nostar (b :: c) d (fun x hx => h x (by simp at hx ⊢; exact Or.inr hx))

theorem com_nostar_close : ∀ (c : List UInt8) (d : Nat), (∀ b ∈ c, b ≠ 42) → com (d + 2) (c ++ [42, 47]) = []
  | [], d, _ => by rw [List.nil_append, com_close, com_nil]
  | [a], d, h => by
    have ha := h a (by simp)
    show com (d + 1 + 1) (a :: 42 :: [47]) = []
    rw [com_cons]
    split
    · exact com_one _ _
    · rw [if_neg (by simp)]
      rw [com_close, com_nil]
  | a :: b :: c, d, h => by
    have ha := h a (by simp)
    have hb := h b (by simp)
    show com (d + 1 + 1) (a :: b :: (c ++ [42, 47])) = []
    rw [com_cons, if_neg (by simp [hb]), if_neg (by simp [ha])]
    exact com_nostar_close (b :: c) d (fun x hx => h x (by simp at hx ⊢; exact Or.inr hx))

theorem com_nostar_open : ∀ (c x : List UInt8) (d : Nat), (∀ b ∈ c, b ≠ 42) → com (d + 1) (c ++ 47 :: 42 :: x) = com (d + 2) x
  | [], x, d, _ => rfl
  | [a], x, d, h => by
    have ha := h a (by simp)
    show com (d + 1) (a :: 47 :: 42 :: x) = _
    rw [com_cons, if_neg (by simp), if_neg (by simp [ha])]
    rfl
  | a :: b :: c, x, d, h => by
    have ha := h a (by simp)
    have hb := h b (by simp)
    show com (d + 1) (a :: b :: (c ++ 47 :: 42 :: x)) = _
    rw [com_cons, if_neg (by simp [hb]), if_neg (by simp [ha])]
    exact com_nostar_open (b :: c) x d (fun y hy => h y (by simp at hy ⊢; exact Or.inr hy))

/-! ### line ends -/
theorem line_pass : ∀ (c x : List UInt8), (∀ b ∈ c, b ≠ 10 ∧ b ≠ 13) → line (c ++ x) = line x
  | [], _, _ => rfl
  | a :: c, x, h => by
    have ha := h a (by simp)
    rw [List.cons_append, line, if_neg (by simp [ha.1, ha.2])]
    exact line_pass c x (fun b hb => h b (by simp [hb]))

/-! ### the laws' strings -/
theorem sk_blanks (s : List UInt8) : sk (32 :: 9 :: 13 :: 10 :: 12 :: s) = sk s := by
  rw [sk_blk (by decide), sk_blk (by decide), sk_blk (by decide), sk_blk (by decide), sk_blk (by decide)]

theorem pre_dash (t : List UInt8) : Lib.hasPrefix (45 :: 45 :: t) [45, 45] = true := by simp [Lib.hasPrefix]
theorem pre_star (t : List UInt8) : Lib.hasPrefix (47 :: 42 :: t) [47, 42] = true := by simp [Lib.hasPrefix]
theorem pre_star_not (t : List UInt8) : Lib.hasPrefix (47 :: 42 :: t) [45, 45] = false := rfl

theorem sk_dash (t : List UInt8) : sk (45 :: 45 :: t) = sk (line t) := by
  rw [sk_line (by decide) (pre_dash t)]
  rfl
theorem sk_star (t : List UInt8) : sk (47 :: 42 :: t) = sk (com 1 t) := by
  rw [sk_com (by decide) (pre_star_not t) (pre_star t)]
  rfl

theorem sk_dash_nl (c s : List UInt8) (x : UInt8) (hx : (x == 10 || x == 13) = true) (h : ∀ b ∈ c, b ≠ 10 ∧ b ≠ 13) : sk (45 :: 45 :: (c ++ x :: s)) = sk s := by
  rw [sk_dash, line_pass _ _ h, line, if_pos hx]

theorem sk_closed (c s : List UInt8) (h : ∀ b ∈ c, b ≠ 47 ∧ b ≠ 42) : sk (47 :: 42 :: (c ++ 42 :: 47 :: s)) = sk s := by
  rw [sk_star, com_pass _ _ _ h, com_close, com_zero]

theorem sk_nested (c s : List UInt8) (h : ∀ b ∈ c, b ≠ 47 ∧ b ≠ 42) : sk (47 :: 42 :: 47 :: 42 :: (c ++ 42 :: 47 :: (c ++ 42 :: 47 :: s))) = sk s := by
  rw [sk_star, com_open, com_pass _ _ _ h, com_close, com_pass _ _ _ h, com_close, com_zero]

theorem sk_mixed (c s : List UInt8) (h1 : ∀ b ∈ c, b ≠ 10 ∧ b ≠ 13) (h2 : ∀ b ∈ c, b ≠ 47 ∧ b ≠ 42) :
    sk (32 :: 45 :: 45 :: (c ++ 10 :: 9 :: 47 :: 42 :: (c ++ 42 :: 47 :: 32 :: 47 :: 42 :: 42 :: 47 :: s))) = sk s := by
  rw [sk_blk (by decide), sk_dash_nl _ _ _ (by decide) h1, sk_blk (by decide), sk_closed _ _ h2, sk_blk (by decide), sk_star, com_close, com_zero]

theorem line_none (c : List UInt8) (h : ∀ b ∈ c, b ≠ 10 ∧ b ≠ 13) : line c = [] := by
  have := line_pass c [] h
  rw [List.append_nil] at this
  rw [this]
  rfl
theorem sk_dash_end (c : List UInt8) (h : ∀ b ∈ c, b ≠ 10 ∧ b ≠ 13) : sk (45 :: 45 :: c) = [] := by
  rw [sk_dash, line_none c h, sk_nil]
theorem sk_dash_end2 (c : List UInt8) (h : ∀ b ∈ c, b ≠ 10 ∧ b ≠ 13) : sk (32 :: 9 :: 45 :: 45 :: c) = [] := by
  rw [sk_blk (by decide), sk_blk (by decide), sk_dash_end c h]
theorem sk_open_end (c : List UInt8) (h : ∀ b ∈ c, b ≠ 42) : sk (47 :: 42 :: c) = [] := by
  rw [sk_star, com_nostar c 0 h, sk_nil]
theorem sk_open_end2 (c : List UInt8) (h : ∀ b ∈ c, b ≠ 42) : sk (47 :: 42 :: 47 :: 42 :: (c ++ [42, 47])) = [] := by
  rw [sk_star, com_open, com_nostar_close c 0 h, sk_nil]
theorem sk_open_end3 (c : List UInt8) (h : ∀ b ∈ c, b ≠ 42) : sk (47 :: 42 :: (c ++ 47 :: 42 :: (c ++ [42, 47]))) = [] := by
  rw [sk_star, com_nostar_open c _ 0 h, com_nostar_close c 0 h, sk_nil]

end Go.Proofs.Qxb6001149a.Pl
