/- Plain mathematics, no program: the digits of a number in a base, their text, and what determines them. -/
import Derived.Lib.ItoaNum
namespace Go.Proofs.YtjcejkenjmkinaaDoor

/-- The digits of u in base b, the first ahead. -/
def digs (b u : Nat) : List Nat :=
  if _h : b ≤ u ∧ 2 ≤ b then digs b (u / b) ++ [u % b] else [u]
  termination_by u
  decreasing_by exact Nat.div_lt_self (by omega) (by omega)

theorem digs_lt {b u : Nat} (h : u < b) : digs b u = [u] := by rw [digs, dif_neg (by omega)]
theorem digs_ge {b u : Nat} (hb : 2 ≤ b) (h : b ≤ u) : digs b u = digs b (u / b) ++ [u % b] := by
  rw [digs, dif_pos ⟨h, hb⟩]

/-- Induction from the right. -/
theorem snoc_ind {α : Type} {P : List α → Prop} (h0 : P []) (h1 : ∀ l a, P l → P (l ++ [a])) (l : List α) : P l := by
  have h : ∀ r : List α, P r.reverse := by
    intro r
    induction r with
    | nil => exact h0
    | cons a r ih => rw [List.reverse_cons]; exact h1 _ a ih
  have := h l.reverse
  rwa [List.reverse_reverse] at this

/-- A digit's letter. -/
def dch (d : Nat) : UInt8 := UInt8.ofNat (if d < 10 then 48 + d else 87 + d)
/-- The text of u in base b. -/
def text (b u : Nat) : List UInt8 := (digs b u).map dch
/-- The text as Go's string. -/
def str (b u : Nat) : ByteArray := ⟨(text b u).toArray⟩

theorem dch_toNat {d : Nat} (h : d < 36) : (dch d).toNat = if d < 10 then 48 + d else 87 + d := by
  unfold dch
  split <;> simp [UInt8.toNat_ofNat'] <;> omega

/-- The number that a list of digits stands for. -/
def val (b : Nat) (l : List Nat) : Nat := l.foldl (fun a d => a * b + d) 0

theorem foldl_val (b : Nat) (l : List Nat) : ∀ a, l.foldl (fun a d => a * b + d) a = a * b ^ l.length + val b l := by
  induction l with
  | nil => intro a; simp [val]
  | cons x l ih =>
    intro a
    have h1 := ih (a * b + x)
    have h2 := ih (0 * b + x)
    simp only [val, List.foldl_cons, List.length_cons] at *
    rw [h1, h2, Nat.pow_succ, Nat.add_mul, Nat.add_mul]
    have e : a * b * b ^ l.length = a * (b ^ l.length * b) := by rw [Nat.mul_assoc, Nat.mul_comm b]
    simp only [Nat.zero_mul, Nat.zero_add] at *
    omega
theorem val_nil (b : Nat) : val b [] = 0 := rfl
theorem val_one (b d : Nat) : val b [d] = d := by simp [val]
theorem val_append (b : Nat) (l r : List Nat) : val b (l ++ r) = val b l * b ^ r.length + val b r := by
  show (l ++ r).foldl _ 0 = _
  rw [List.foldl_append, foldl_val]; rfl
theorem val_cons (b d : Nat) (l : List Nat) : val b (d :: l) = d * b ^ l.length + val b l := by
  rw [← List.singleton_append, val_append, val_one]
theorem val_snoc (b d : Nat) (l : List Nat) : val b (l ++ [d]) = val b l * b + d := by
  rw [val_append, val_one]; simp

theorem val_zeros (b k : Nat) (l : List Nat) : val b (List.replicate k 0 ++ l) = val b l := by
  induction k with
  | zero => rfl
  | succ k ih => rw [List.replicate_succ, List.cons_append, val_cons, ih]; simp

theorem val_lt {b : Nat} : ∀ (l : List Nat), (∀ d ∈ l, d < b) → val b l < b ^ l.length
  | [], _ => by simp [val]
  | d :: l, h => by
    have h1 := val_lt l (fun x hx => h x (List.mem_cons_of_mem _ hx))
    have h2 : d < b := h d (List.mem_cons_self ..)
    rw [val_cons, List.length_cons, Nat.pow_succ]
    have h3 : (d + 1) * b ^ l.length ≤ b * b ^ l.length := Nat.mul_le_mul_right _ h2
    rw [Nat.add_mul, Nat.one_mul] at h3
    rw [Nat.mul_comm (b ^ l.length) b]
    omega

theorem digs_ne (b u : Nat) : digs b u ≠ [] := by
  rw [digs]; split <;> simp
theorem digs_pos (b u : Nat) : 1 ≤ (digs b u).length := by
  have := digs_ne b u
  cases h : digs b u with
  | nil => exact absurd h this
  | cons x l => simp
theorem digs_bd {b : Nat} (hb : 2 ≤ b) : ∀ (u : Nat), ∀ d ∈ digs b u, d < b := by
  intro u
  induction u using Nat.strongRecOn with
  | _ u ih =>
    intro d hd
    by_cases h : u < b
    · rw [digs_lt h] at hd; simp at hd; omega
    · rw [digs_ge hb (by omega)] at hd
      rcases List.mem_append.1 hd with hd | hd
      · exact ih (u / b) (Nat.div_lt_self (by omega) (by omega)) d hd
      · simp at hd; subst hd; exact Nat.mod_lt _ (by omega)
theorem val_digs {b : Nat} (hb : 2 ≤ b) : ∀ (u : Nat), val b (digs b u) = u := by
  intro u
  induction u using Nat.strongRecOn with
  | _ u ih =>
    by_cases h : u < b
    · rw [digs_lt h, val_one]
    · rw [digs_ge hb (by omega), val_snoc, ih (u / b) (Nat.div_lt_self (by omega) (by omega)), Nat.mul_comm, Nat.div_add_mod]

/-- A list of digits that is the digits of a number: it is not empty, and begins with 0 only where it is one digit. -/
def Norm (b : Nat) (l : List Nat) : Prop := l ≠ [] ∧ (∀ d ∈ l, d < b) ∧ (2 ≤ l.length → l.head? ≠ some 0)

theorem norm_digs {b : Nat} (hb : 2 ≤ b) (u : Nat) : Norm b (digs b u) := by
  refine ⟨digs_ne b u, digs_bd hb u, ?_⟩
  induction u using Nat.strongRecOn with
  | _ u ih =>
    by_cases h : u < b
    · rw [digs_lt h]; simp
    · rw [digs_ge hb (by omega)]
      intro _
      have hd := ih (u / b) (Nat.div_lt_self (by omega) (by omega))
      have hn := digs_ne b (u / b)
      by_cases h2 : u / b < b
      · rw [digs_lt h2]
        have : 1 ≤ u / b := (Nat.le_div_iff_mul_le (by omega)).2 (by omega)
        simp; omega
      · have hl : 2 ≤ (digs b (u / b)).length := by
          rw [digs_ge hb (by omega)]
          have := digs_pos b (u / b / b)
          simp; omega
        have := hd hl
        cases e : digs b (u / b) with
        | nil => exact absurd e hn
        | cons x l => rw [e] at this; simpa using this

theorem digs_val_snoc {b : Nat} (hb : 2 ≤ b) : ∀ (n : Nat) (l : List Nat), l.length ≤ n → Norm b l → digs b (val b l) = l := by
  intro n
  induction n with
  | zero => intro l hl h; exact absurd (List.length_eq_zero_iff.1 (by omega)) h.1
  | succ n ih =>
    intro l hl h
    rcases List.eq_nil_or_concat l with e | ⟨r, d, e⟩
    · exact absurd e h.1
    · rw [List.concat_eq_append] at e
      subst e
      have hd : d < b := h.2.1 d (by simp)
      rw [val_snoc]
      by_cases hr : r = []
      · subst hr; simp only [val_nil, Nat.zero_mul, Nat.zero_add, List.nil_append]; exact digs_lt hd
      · have hrn : Norm b r := ⟨hr, fun x hx => h.2.1 x (by simp [hx]), fun h2 => by
          have := h.2.2 (by simp; omega)
          cases r with
          | nil => exact absurd rfl hr
          | cons x l => simpa using this⟩
        have hv : 1 ≤ val b r := by
          cases r with
          | nil => exact absurd rfl hr
          | cons x l =>
            have := h.2.2 (by simp)
            rw [val_cons]
            have hx : 1 ≤ x := by simp at this; omega
            have : 1 * b ^ l.length ≤ x * b ^ l.length := Nat.mul_le_mul_right _ hx
            have : 1 ≤ b ^ l.length := Nat.one_le_pow _ _ (by omega)
            omega
        have hge : b ≤ val b r * b + d := by
          have : 1 * b ≤ val b r * b := Nat.mul_le_mul_right _ hv
          omega
        rw [digs_ge hb hge]
        have e1 : (val b r * b + d) / b = val b r := by
          rw [Nat.mul_comm, Nat.mul_add_div (by omega), Nat.div_eq_of_lt hd]; omega
        have e2 : (val b r * b + d) % b = d := by
          rw [Nat.mul_comm, Nat.mul_add_mod, Nat.mod_eq_of_lt hd]
        rw [e1, e2, ih r (by simp at hl; omega) hrn]
/-- THE DIGITS OF A NUMBER ARE THE ONE LIST IN NORMAL FORM THAT STANDS FOR IT. -/
theorem digs_val {b : Nat} (hb : 2 ≤ b) {l : List Nat} (h : Norm b l) : digs b (val b l) = l := digs_val_snoc hb l.length l (Nat.le_refl _) h
theorem digs_of {b u : Nat} (hb : 2 ≤ b) {l : List Nat} (h : Norm b l) (hv : val b l = u) : digs b u = l := by rw [← hv, digs_val hb h]

/-- Two lists of digits of one length that stand for one number are one list. -/
theorem val_inj {b : Nat} : ∀ (l r : List Nat), l.length = r.length → (∀ d ∈ l, d < b) → (∀ d ∈ r, d < b) → val b l = val b r → l = r
  | [], [], _, _, _, _ => rfl
  | [], _ :: _, h, _, _, _ => by simp at h
  | _ :: _, [], h, _, _, _ => by simp at h
  | x :: l, y :: r, h, hl, hr, hv => by
    have hlen : l.length = r.length := by simpa using h
    have h1 := val_lt l (fun d hd => hl d (List.mem_cons_of_mem _ hd))
    have h2 := val_lt r (fun d hd => hr d (List.mem_cons_of_mem _ hd))
    rw [val_cons, val_cons, hlen] at hv
    rw [hlen] at h1
    have hx : x = y := by
      have a1 : (x * b ^ r.length + val b l) / b ^ r.length = x := by
        rw [Nat.mul_comm, Nat.mul_add_div (by omega), Nat.div_eq_of_lt h1]; omega
      have a2 : (y * b ^ r.length + val b r) / b ^ r.length = y := by
        rw [Nat.mul_comm, Nat.mul_add_div (by omega), Nat.div_eq_of_lt h2]; omega
      rw [← a1, ← a2, hv]
    subst hx
    rw [val_inj l r hlen (fun d hd => hl d (List.mem_cons_of_mem _ hd)) (fun d hd => hr d (List.mem_cons_of_mem _ hd)) (by omega)]

/-- How many digits at the most: 64 for a number of 64 bits. -/
theorem digs_len {b : Nat} (hb : 2 ≤ b) : ∀ (n u : Nat), u < 2 ^ (n + 1) → (digs b u).length ≤ n + 1 := by
  intro n
  induction n with
  | zero => intro u h; rw [digs_lt (by simp at h; omega)]; simp
  | succ n ih =>
    intro u h
    by_cases hu : u < b
    · rw [digs_lt hu]; simp
    · rw [digs_ge hb (by omega)]
      have h1 : u / b ≤ u / 2 := Nat.div_le_div_left hb (by omega)
      have := ih (u / b) (by rw [Nat.pow_succ] at h; omega)
      simp; omega
theorem text_len (b u : Nat) : (text b u).length = (digs b u).length := by simp [text]
theorem str_size (b u : Nat) : (str b u).size = (digs b u).length := by
  show (text b u).toArray.size = _
  rw [List.size_toArray, text_len]

/-- The library's decimal numeral is the text in base 10. -/
theorem decDigits_text (u : Nat) : Lib.decDigits u = text 10 u := by
  induction u using Nat.strongRecOn with
  | _ u ih =>
    by_cases h : u < 10
    · rw [Lib.decDigits, dif_pos h, text, digs_lt h]; simp [dch, h]
    · rw [Lib.decDigits, dif_neg h, ih (u / 10) (by omega)]
      show _ = (digs 10 u).map dch
      rw [digs_ge (by omega) (by omega), List.map_append]
      have : u % 10 < 10 := by omega
      simp [dch, this, text]

/-- A string out of its bytes. -/
def bs (l : List UInt8) : ByteArray := ⟨l.toArray⟩
theorem bs_size (l : List UInt8) : (bs l).size = l.length := by
  show l.toArray.size = _
  simp
theorem bs_get (l : List UInt8) (k : Nat) (h : k < (bs l).size) : (bs l)[k] = l[k]'(by rw [← bs_size]; exact h) := rfl
theorem bs_toList (l : List UInt8) : (bs l).toList = l := by
  rw [ByteArray.toList_eq]
  simp [bs]
theorem bs_append (l r : List UInt8) : bs l ++ bs r = bs (l ++ r) := by
  apply ByteArray.ext
  simp [bs]
theorem bs_one (c : UInt8) : (⟨#[c]⟩ : ByteArray) = bs [c] := rfl
/-- Digits with k zeros ahead, and their text. -/
def zd (k b u : Nat) : List Nat := List.replicate k 0 ++ digs b u
def zs (k b u : Nat) : ByteArray := bs ((zd k b u).map dch)
theorem zd_len (k b u : Nat) : (zd k b u).length = k + (digs b u).length := by simp [zd]
theorem zd_bd {b : Nat} (hb : 2 ≤ b) (k u : Nat) : ∀ d ∈ zd k b u, d < b := by
  intro d hd
  rcases List.mem_append.1 hd with h | h
  · have := List.eq_of_mem_replicate h; omega
  · exact digs_bd hb u d h
theorem val_zd {b : Nat} (hb : 2 ≤ b) (k u : Nat) : val b (zd k b u) = u := by rw [zd, val_zeros, val_digs hb]
theorem zs_size (k b u : Nat) : (zs k b u).size = k + (digs b u).length := by rw [zs, bs_size, List.length_map, zd_len]
theorem zs_get (k b u j : Nat) (h : j < (zs k b u).size) : (zs k b u)[j] = dch ((zd k b u)[j]'(by rw [zd_len, ← zs_size]; exact h)) := by
  simp only [zs, bs_get, List.getElem_map]
theorem zs_zero (b u : Nat) : zs 0 b u = str b u := rfl
theorem zs_succ (k b u : Nat) : (⟨#[48]⟩ : ByteArray) ++ zs k b u = zs (k + 1) b u := by
  rw [bs_one, zs, bs_append]; rfl

/-- The greatest place of a number in normal form. -/
theorem norm_ge {b : Nat} {l : List Nat} (h : Norm b l) (h2 : 2 ≤ l.length) : b ^ (l.length - 1) ≤ val b l := by
  cases l with
  | nil => simp at h2
  | cons x r =>
    have hx := h.2.2 h2
    have hx1 : 1 ≤ x := by simp at hx; omega
    rw [val_cons, List.length_cons, Nat.add_sub_cancel]
    have : 1 * b ^ r.length ≤ x * b ^ r.length := Nat.mul_le_mul_right _ hx1
    omega
theorem norm_of_ge {b : Nat} {l : List Nat} (hne : l ≠ []) (hbd : ∀ d ∈ l, d < b) (hge : 2 ≤ l.length → b ^ (l.length - 1) ≤ val b l) : Norm b l := by
  refine ⟨hne, hbd, fun h2 h0 => ?_⟩
  cases l with
  | nil => exact hne rfl
  | cons x r =>
    have hx : x = 0 := by simpa using h0
    subst hx
    have h1 := hge h2
    have h3 := val_lt r (fun d hd => hbd d (List.mem_cons_of_mem _ hd))
    rw [val_cons, List.length_cons, Nat.add_sub_cancel, Nat.zero_mul, Nat.zero_add] at h1
    omega
theorem digs_ge_pow {b : Nat} (hb : 2 ≤ b) (u : Nat) (h2 : 2 ≤ (digs b u).length) : b ^ ((digs b u).length - 1) ≤ u := by
  have := norm_ge (norm_digs hb u) h2
  rwa [val_digs hb] at this

theorem str_bs (b u : Nat) : str b u = bs (text b u) := rfl
theorem bs_eta (s : ByteArray) : bs s.data.toList = s := by cases s; simp [bs]
end Go.Proofs.YtjcejkenjmkinaaDoor
