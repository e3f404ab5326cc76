/-
  THE PLAIN FUNCTIONS: percent-encoding on lists of bytes. No program in this text.
-/
import Derived.Lib.Strings
namespace Go.Proofs.Qxb6001154a.Pl

def hex (c : UInt8) : Bool := (decide (48 ≤ c.toNat) && decide (c.toNat ≤ 57)) || (decide (97 ≤ c.toNat) && decide (c.toNat ≤ 102)) || (decide (65 ≤ c.toNat) && decide (c.toNat ≤ 70))
def hv (c : UInt8) : Nat := if c.toNat ≤ 57 then c.toNat - 48 else if c.toNat ≤ 70 then c.toNat - 55 else c.toNat - 87
def oct (a b : UInt8) : UInt8 := UInt8.ofNat (hv a * 16 + hv b)

theorem hex_cases {c : UInt8} (h : hex c = true) : (48 ≤ c.toNat ∧ c.toNat ≤ 57) ∨ (97 ≤ c.toNat ∧ c.toNat ≤ 102) ∨ (65 ≤ c.toNat ∧ c.toNat ≤ 70) := by
  unfold hex at h
  simp only [Bool.or_eq_true, Bool.and_eq_true, decide_eq_true_eq] at h
  omega
theorem hex_mk {c : UInt8} (h : (48 ≤ c.toNat ∧ c.toNat ≤ 57) ∨ (97 ≤ c.toNat ∧ c.toNat ≤ 102) ∨ (65 ≤ c.toNat ∧ c.toNat ≤ 70)) : hex c = true := by
  unfold hex
  simp only [Bool.or_eq_true, Bool.and_eq_true, decide_eq_true_eq]
  omega
theorem hex_not {c : UInt8} (h : hex c = false) : ¬ ((48 ≤ c.toNat ∧ c.toNat ≤ 57) ∨ (97 ≤ c.toNat ∧ c.toNat ≤ 102) ∨ (65 ≤ c.toNat ∧ c.toNat ≤ 70)) := by
  intro hc
  rw [hex_mk hc] at h
  cases h
theorem hv_lt {c : UInt8} (h : hex c = true) : hv c < 16 := by
  have := hex_cases h
  unfold hv
  split
  · omega
  · split <;> omega
theorem hex_ne {c : UInt8} (h : hex c = true) : c ≠ 37 := by
  rintro rfl
  revert h
  decide
theorem oct_toNat {a b : UInt8} (ha : hex a = true) (hb : hex b = true) : (oct a b).toNat = hv a * 16 + hv b := by
  have h1 := hv_lt ha
  have h2 := hv_lt hb
  unfold oct
  rw [UInt8.toNat_ofNat']
  omega
theorem u8_eq {a b : UInt8} : a = b ↔ a.toNat = b.toNat := UInt8.toNat_inj.symm

/-- %2F and %2f are the two ways to write a slash. -/
theorem oct_slash {a b : UInt8} (ha : hex a = true) (hb : hex b = true) : (oct a b == 47) = (a == 50 && (b == 70 || b == 102)) := by
  have h1 := hex_cases ha
  have h2 := hex_cases hb
  have ho := oct_toNat ha hb
  have e1 : ∀ x : UInt8, ∀ y : UInt8, (x == y) = decide (x.toNat = y.toNat) := fun x y => by
    rw [Bool.eq_iff_iff, beq_iff_eq, decide_eq_true_eq, u8_eq]
  rw [e1, e1, e1, e1, ho]
  rw [Bool.eq_iff_iff]
  simp only [Bool.and_eq_true, Bool.or_eq_true, decide_eq_true_eq]
  have k1 : (47 : UInt8).toNat = 47 := rfl
  have k2 : (50 : UInt8).toNat = 50 := rfl
  have k3 : (70 : UInt8).toNat = 70 := rfl
  have k4 : (102 : UInt8).toNat = 102 := rfl
  rw [k1, k2, k3, k4]
  unfold hv
  constructor
  · intro h
    split at h <;> split at h <;> (try split at h) <;> (try split at h) <;> omega
  · intro h
    split <;> split <;> (try split) <;> (try split) <;> omega

/-- Every percent sign begins an encoded octet. -/
def wf : List UInt8 → Bool
  | [] => true
  | a :: t =>
    match t with
    | [] => !(a == 37)
    | b :: t1 =>
      match t1 with
      | [] => !(a == 37) && wf [b]
      | c :: t2 => if a == 37 then hex b && hex c && wf t2 else wf (b :: c :: t2)

/-- What unescape gives for a well-formed text. -/
def un (k : Bool) : List UInt8 → List UInt8
  | [] => []
  | a :: t =>
    match t with
    | [] => [a]
    | b :: t1 =>
      match t1 with
      | [] => a :: un k [b]
      | c :: t2 => if a == 37 && !(k && oct b c == 47) then oct b c :: un k t2 else a :: un k (b :: c :: t2)

theorem wf_nil : wf [] = true := rfl
theorem wf_plain {a : UInt8} {t : List UInt8} (h : a ≠ 37) : wf (a :: t) = wf t := by
  have h' : (a == 37) = false := by simpa using h
  match t with
  | [] => simp [wf, h']
  | [b] => simp [wf, h']
  | b :: c :: t => simp [wf, h']
theorem wf_pct (b c : UInt8) (t : List UInt8) : wf (37 :: b :: c :: t) = (hex b && hex c && wf t) := rfl
theorem wf_pct_inv {t : List UInt8} (h : wf (37 :: t) = true) : ∃ b c t', t = b :: c :: t' ∧ hex b = true ∧ hex c = true ∧ wf t' = true := by
  match t, h with
  | [], h => simp [wf] at h
  | [b], h => simp [wf] at h
  | b :: c :: t', h =>
    rw [wf_pct] at h
    simp only [Bool.and_eq_true] at h
    exact ⟨b, c, t', rfl, h.1.1, h.1.2, h.2⟩

theorem un_nil (k : Bool) : un k [] = [] := rfl
theorem un_plain (k : Bool) {a : UInt8} {t : List UInt8} (h : a ≠ 37) : un k (a :: t) = a :: un k t := by
  have h' : (a == 37) = false := by simpa using h
  match t with
  | [] => simp [un]
  | [b] => simp [un]
  | b :: c :: t => simp [un, h']
theorem un_pct (k : Bool) (b c : UInt8) (t : List UInt8) (h : (k && oct b c == 47) = false) : un k (37 :: b :: c :: t) = oct b c :: un k t := by
  simp [un, h]
theorem un_keep (b c : UInt8) (t : List UInt8) (h : (oct b c == 47) = true) (hb : hex b = true) (hc : hex c = true) : un true (37 :: b :: c :: t) = 37 :: b :: c :: un true t := by
  have e : un true (37 :: b :: c :: t) = 37 :: un true (b :: c :: t) := by simp [un, h]
  rw [e, un_plain true (hex_ne hb), un_plain true (hex_ne hc)]
theorem un_keep1 (b c : UInt8) (t : List UInt8) (h : (oct b c == 47) = true) : un true (37 :: b :: c :: t) = 37 :: un true (b :: c :: t) := by
  simp [un, h]

/-- An induction over well-formed texts. -/
theorem wf_induct {p : List UInt8 → Prop} (h0 : p []) (h1 : ∀ a t, a ≠ 37 → wf t = true → p t → p (a :: t))
    (h2 : ∀ b c t, hex b = true → hex c = true → wf t = true → p t → p (37 :: b :: c :: t)) : ∀ (n : Nat) (l : List UInt8), l.length ≤ n → wf l = true → p l
  | _, [], _, _ => h0
  | 0, a :: t, hn, _ => by simp at hn
  | n + 1, a :: t, hn, hw => by
    have hn' : t.length ≤ n := by simpa using hn
    by_cases ha : a = 37
    · subst ha
      obtain ⟨b, c, t', rfl, hb, hc, ht⟩ := wf_pct_inv hw
      exact h2 b c t' hb hc ht (wf_induct h0 h1 h2 n t' (by simp at hn'; omega) ht)
    · rw [wf_plain ha] at hw
      exact h1 a t ha hw (wf_induct h0 h1 h2 n t hn' hw)

theorem un_append (k : Bool) (a b : List UInt8) (h : wf a = true) : un k (a ++ b) = un k a ++ un k b := by
  refine wf_induct (p := fun a => un k (a ++ b) = un k a ++ un k b) rfl ?_ ?_ _ a (Nat.le_refl _) h
  · intro x t hx _ ih
    rw [List.cons_append, un_plain k hx, un_plain k hx, ih, List.cons_append]
  · intro x y t hx hy _ ih
    cases hk : (k && oct x y == 47)
    · show un k (37 :: x :: y :: (t ++ b)) = _
      rw [un_pct k x y _ hk, un_pct k x y _ hk, ih, List.cons_append]
    · simp only [Bool.and_eq_true] at hk
      obtain ⟨rfl, ho⟩ := hk
      show un true (37 :: x :: y :: (t ++ b)) = _
      rw [un_keep x y _ ho hx hy, un_keep x y _ ho hx hy, ih]
      rfl

theorem wf_append (a b : List UInt8) (h : wf a = true) (hb : wf b = true) : wf (a ++ b) = true := by
  refine wf_induct (p := fun a => wf (a ++ b) = true) hb ?_ ?_ _ a (Nat.le_refl _) h
  · intro x t hx _ ih
    rw [List.cons_append, wf_plain hx, ih]
  · intro x y t hx hy _ ih
    show wf (37 :: x :: y :: (t ++ b)) = true
    rw [wf_pct, hx, hy, ih]
    rfl

theorem un_nopct (k : Bool) : ∀ l : List UInt8, (∀ b ∈ l, b ≠ 37) → un k l = l
  | [], _ => rfl
  | a :: t, h => by rw [un_plain k (h a (by simp)), un_nopct k t (fun b hb => h b (by simp [hb]))]
theorem wf_nopct : ∀ l : List UInt8, (∀ b ∈ l, b ≠ 37) → wf l = true
  | [], _ => rfl
  | a :: t, h => by rw [wf_plain (h a (by simp)), wf_nopct t (fun b hb => h b (by simp [hb]))]

/-! ### lengths -/
def pct : List UInt8 → Nat
  | [] => 0
  | a :: t =>
    match t with
    | [] => if a == 37 then 1 else 0
    | b :: t1 =>
      match t1 with
      | [] => (if a == 37 then 1 else 0) + pct [b]
      | c :: t2 => if a == 37 then pct t2 + 1 else pct (b :: c :: t2)
def kep : List UInt8 → Nat
  | [] => 0
  | a :: t =>
    match t with
    | [] => 0
    | b :: t1 =>
      match t1 with
      | [] => kep [b]
      | c :: t2 => if a == 37 then kep t2 + (if b == 50 && (c == 70 || c == 102) then 1 else 0) else kep (b :: c :: t2)
theorem pct_plain {a : UInt8} {t : List UInt8} (h : a ≠ 37) : pct (a :: t) = pct t := by
  have h' : (a == 37) = false := by simpa using h
  match t with
  | [] => simp [pct, h']
  | [b] => simp [pct, h']
  | b :: c :: t => simp [pct, h']
theorem pct_pct (b c : UInt8) (t : List UInt8) : pct (37 :: b :: c :: t) = pct t + 1 := rfl
theorem kep_plain {a : UInt8} {t : List UInt8} (h : a ≠ 37) : kep (a :: t) = kep t := by
  have h' : (a == 37) = false := by simpa using h
  match t with
  | [] => simp [kep]
  | [b] => simp [kep]
  | b :: c :: t => simp [kep, h']
theorem kep_pct (b c : UInt8) (t : List UInt8) : kep (37 :: b :: c :: t) = kep t + (if b == 50 && (c == 70 || c == 102) then 1 else 0) := rfl

theorem len_false (l : List UInt8) (h : wf l = true) : (un false l).length + 2 * pct l = l.length := by
  refine wf_induct (p := fun l => (un false l).length + 2 * pct l = l.length) rfl ?_ ?_ _ l (Nat.le_refl _) h
  · intro a t ha _ ih
    rw [un_plain false ha, pct_plain ha]
    simp only [List.length_cons]
    omega
  · intro b c t hb hc _ ih
    rw [un_pct false b c t (by simp), pct_pct]
    simp only [List.length_cons]
    omega
theorem len_true (l : List UInt8) (h : wf l = true) : (un true l).length + 2 * pct l = l.length + 2 * kep l ∧ kep l ≤ pct l := by
  refine wf_induct (p := fun l => (un true l).length + 2 * pct l = l.length + 2 * kep l ∧ kep l ≤ pct l) ⟨rfl, Nat.le_refl _⟩ ?_ ?_ _ l (Nat.le_refl _) h
  · intro a t ha _ ih
    rw [un_plain true ha, pct_plain ha, kep_plain ha]
    simp only [List.length_cons]
    omega
  · intro b c t hb hc _ ih
    rw [pct_pct, kep_pct, ← oct_slash hb hc]
    cases ho : (oct b c == 47)
    · rw [un_pct true b c t (by simp [ho])]
      simp only [List.length_cons, Bool.false_eq_true, if_false]
      omega
    · rw [un_keep b c t ho hb hc]
      simp only [List.length_cons, if_true]
      omega
theorem pct_le (l : List UInt8) (h : wf l = true) : pct l ≤ l.length := by have := len_false l h; omega
theorem un_le (k : Bool) (l : List UInt8) (h : wf l = true) : (un k l).length ≤ l.length := by
  cases k
  · have := len_false l h; omega
  · have := len_true l h; omega

/-! ### encoding -/
def hd (u : Bool) (v : Nat) : UInt8 := UInt8.ofNat (if v < 10 then 48 + v else if u then 55 + v else 87 + v)
def enc1 (u : Bool) (c : UInt8) : List UInt8 := [37, hd u (c.toNat / 16), hd u (c.toNat % 16)]
def enc (u : Bool) (l : List UInt8) : List UInt8 := l.flatMap (enc1 u)
def sl1 (u : Bool) (c : UInt8) : List UInt8 := if c == 47 then [37, 50, hd u 15] else [c]
def sl (u : Bool) (l : List UInt8) : List UInt8 := l.flatMap (sl1 u)

theorem hd_toNat (u : Bool) (v : Nat) (h : v < 16) : (hd u v).toNat = if v < 10 then 48 + v else if u then 55 + v else 87 + v := by
  unfold hd
  rw [UInt8.toNat_ofNat']
  split
  · omega
  · split <;> omega
theorem hd_hex (u : Bool) (v : Nat) (h : v < 16) : hex (hd u v) = true := by
  refine hex_mk ?_
  rw [hd_toNat u v h]
  split
  · omega
  · split <;> omega
theorem hv_hd (u : Bool) (v : Nat) (h : v < 16) : hv (hd u v) = v := by
  unfold hv
  rw [hd_toNat u v h]
  cases u
  · by_cases h1 : v < 10
    · simp only [h1, if_true]
      split
      · omega
      · split <;> omega
    · simp only [h1, if_false, Bool.false_eq_true]
      split
      · omega
      · split <;> omega
  · by_cases h1 : v < 10
    · simp only [h1, if_true]
      split
      · omega
      · split <;> omega
    · simp only [h1, if_false, if_true]
      split
      · omega
      · split <;> omega
theorem oct_hd (u : Bool) (c : UInt8) : oct (hd u (c.toNat / 16)) (hd u (c.toNat % 16)) = c := by
  have hc := UInt8.toNat_lt c
  have h1 := hd_hex u (c.toNat / 16) (by omega)
  have h2 := hd_hex u (c.toNat % 16) (by omega)
  rw [u8_eq, oct_toNat h1 h2, hv_hd u _ (by omega), hv_hd u _ (by omega)]
  omega

theorem enc_cons (u : Bool) (c : UInt8) (l : List UInt8) : enc u (c :: l) = 37 :: hd u (c.toNat / 16) :: hd u (c.toNat % 16) :: enc u l := rfl
theorem wf_enc (u : Bool) : ∀ l : List UInt8, wf (enc u l) = true
  | [] => rfl
  | c :: l => by
    have hc := UInt8.toNat_lt c
    rw [enc_cons, wf_pct, hd_hex u _ (by omega), hd_hex u _ (by omega), wf_enc u l]
    rfl
theorem un_enc_false (u : Bool) : ∀ l : List UInt8, un false (enc u l) = l
  | [] => rfl
  | c :: l => by rw [enc_cons, un_pct false _ _ _ (by simp), oct_hd, un_enc_false u l]
theorem un_enc_true (u : Bool) : ∀ l : List UInt8, un true (enc u l) = sl u l
  | [] => rfl
  | c :: l => by
    have hc := UInt8.toNat_lt c
    have ih := un_enc_true u l
    rw [enc_cons]
    show _ = sl1 u c ++ sl u l
    unfold sl1
    by_cases h : c = 47
    · subst h
      rw [un_keep _ _ _ (by rw [oct_hd]; rfl) (hd_hex u _ (by decide)) (hd_hex u _ (by decide)), ih]
      have e : hd u ((47 : UInt8).toNat / 16) = 50 := by cases u <;> rfl
      rw [e]
      rfl
    · have h' : (c == 47) = false := by simpa using h
      rw [un_pct true _ _ _ (by rw [oct_hd, h']; rfl), oct_hd, ih, h']
      rfl
theorem enc_length (u : Bool) : ∀ l : List UInt8, (enc u l).length = 3 * l.length
  | [] => rfl
  | c :: l => by rw [enc_cons]; simp only [List.length_cons]; rw [enc_length u l]; omega
theorem enc_snoc (u : Bool) (l : List UInt8) (c : UInt8) : enc u (l ++ [c]) = enc u l ++ [37, hd u (c.toNat / 16), hd u (c.toNat % 16)] := by
  unfold enc
  rw [List.flatMap_append]
  simp [enc1]
theorem sl_snoc (u : Bool) (l : List UInt8) (c : UInt8) : sl u (l ++ [c]) = sl u l ++ sl1 u c := by
  unfold sl
  rw [List.flatMap_append]
  simp
theorem sl_le (u : Bool) : ∀ l : List UInt8, (sl u l).length ≤ 3 * l.length
  | [] => Nat.le_refl _
  | c :: l => by
    have ih := sl_le u l
    have e : sl u (c :: l) = sl1 u c ++ sl u l := rfl
    rw [e, List.length_append, List.length_cons]
    have : (sl1 u c).length ≤ 3 := by unfold sl1; split <;> simp
    omega

end Go.Proofs.Qxb6001154a.Pl
