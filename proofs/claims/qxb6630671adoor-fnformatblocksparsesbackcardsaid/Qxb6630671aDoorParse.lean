/-
  What stands where in the text of a list of blocks.
-/
import Derived.Test.Qxb6630671aDoorSmall
namespace Go.Proofs.Qxb6630671aDoor
set_option linter.unusedVariables false
set_option linter.unusedSimpArgs false

/-- The bytes l stand in s from place p on. -/
def At (s : ByteArray) (p : Nat) (l : List UInt8) : Prop := ∃ pre post, s.data.toList = pre ++ (l ++ post) ∧ pre.length = p

theorem At.left {s : ByteArray} {p : Nat} {a b : List UInt8} (h : At s p (a ++ b)) : At s p a := by
  obtain ⟨pre, post, e, hl⟩ := h
  exact ⟨pre, b ++ post, by rw [e, List.append_assoc], hl⟩
theorem At.right {s : ByteArray} {p : Nat} {a b : List UInt8} (h : At s p (a ++ b)) (q : Nat) (hq : q = p + a.length) : At s q b := by
  obtain ⟨pre, post, e, hl⟩ := h
  exact ⟨pre ++ a, post, by rw [e]; simp, by simp [hl, hq]⟩
theorem At.size {s : ByteArray} {p : Nat} {l : List UInt8} (h : At s p l) : p + l.length ≤ s.size := by
  obtain ⟨pre, post, e, hl⟩ := h
  have : s.size = s.data.toList.length := rfl
  rw [this, e]
  simp
  omega
theorem At.get {s : ByteArray} {p : Nat} {l : List UInt8} (h : At s p l) (i : Nat) (hi : i < l.length) : ∃ hq : p + i < s.size, s[p + i] = l[i] := by
  have hs := h.size
  obtain ⟨pre, post, e, hl⟩ := h
  refine ⟨by omega, ?_⟩
  have h1 : s[p + i]'(by omega) = s.data.toList[p + i]'(by have : s.size = s.data.toList.length := rfl; omega) := rfl
  rw [h1]
  have h2 : s.data.toList[p + i]? = some l[i] := by
    rw [e, List.getElem?_append_right (by omega), List.getElem?_append_left (by omega), show p + i - pre.length = i by omega]
    simp [hi]
  rw [List.getElem?_eq_some_iff] at h2
  exact h2.2
theorem At.byte {s : ByteArray} {p : Nat} {c : UInt8} {l : List UInt8} (h : At s p (c :: l)) : ∃ hq : p < s.size, s[p] = c := by
  obtain ⟨h1, h2⟩ := h.get 0 (by simp)
  exact ⟨by omega, by simpa using h2⟩
theorem At.ext {s : ByteArray} {p : Nat} {l : List UInt8} (h : At s p l) : (s.extract p (p + l.length)).data.toList = l := by
  obtain ⟨pre, post, e, hl⟩ := h
  have : (s.extract p (p + l.length)).data.toList = (s.data.toList.drop p).take l.length := by
    simp [ByteArray.data_extract, List.extract_eq_take_drop]
  rw [this, e, ← hl]
  simp

/-- The separator ahead of the k-th entry. -/
def sep (k : Nat) : List UInt8 := if k = 0 then [] else [44, 32]
theorem txt_next (bs : List Bk) (k : Nat) (hk : k < bs.length) : txt (bs.take (k + 1)) = txt (bs.take k) ++ (sep k ++ entry bs[k]) := by
  by_cases h : k = 0
  · subst h
    rw [txt_first bs hk]
    rfl
  · rw [txt_step bs k hk (by omega), sep, if_neg h, List.append_assoc]
theorem txt_prefix (bs : List Bk) (k : Nat) (hk : k ≤ bs.length) (h0 : 0 < k) : txt bs = txt (bs.take k) ++ tx (bs.drop k) := by
  have h := tx_two (bs.take k) (by simp; omega)
  unfold txt
  rw [← List.drop_append_of_le_length h, ← tx_append, List.take_append_drop]
theorem text_at (s : ByteArray) (bs : List Bk) (hs : s.data.toList = txt bs) (k : Nat) (hk : k < bs.length) (p : Nat) (hp : p = (txt (bs.take k)).length) : At s p (sep k ++ entry bs[k]) := by
  refine ⟨txt (bs.take k), tx (bs.drop (k + 1)), ?_, hp.symm⟩
  rw [hs, txt_prefix bs (k + 1) hk (by omega), txt_next bs k hk, List.append_assoc]

/-! ### The digits -/
theorem dg_val (u : Nat) (j : Nat) : (Lib.dg u j).toNat = 48 + u / 10 ^ j % 10 := by
  unfold Lib.dg
  have : u / 10 ^ j % 10 < 10 := Nat.mod_lt _ (by omega)
  rw [UInt8.toNat_ofNat', Nat.mod_eq_of_lt (by omega)]
theorem dec_get (u j : Nat) (h : j < (Lib.decDigits u).length) : ((Lib.decDigits u)[j]).toNat = 48 + u / 10 ^ (Lib.nDigits u - 1 - j) % 10 := by
  have e := Lib.decDigits_eq u
  have : (Lib.decDigits u)[j]? = some (Lib.dg u (Lib.nDigits u - 1 - j)) := by
    rw [Lib.decDigits_length] at h
    rw [e]; simp [h]
  rw [List.getElem?_eq_some_iff] at this
  rw [this.2, dg_val]
/-- What the first j digits say. -/
def vl (u j : Nat) : Nat := u / 10 ^ (Lib.nDigits u - j)
theorem vl_zero (u : Nat) : vl u 0 = 0 := by
  unfold vl
  exact Nat.div_eq_of_lt (Lib.lt_pow_nDigits u)
theorem vl_all (u : Nat) : vl u (Lib.nDigits u) = u := by simp [vl]
theorem vl_step (u j : Nat) (h : j < Lib.nDigits u) : vl u (j + 1) = vl u j * 10 + u / 10 ^ (Lib.nDigits u - 1 - j) % 10 := by
  unfold vl
  rw [show Lib.nDigits u - (j + 1) = Lib.nDigits u - 1 - j by omega, show Lib.nDigits u - j = (Lib.nDigits u - 1 - j) + 1 by omega, Nat.pow_succ, ← Nat.div_div_eq_div_mul]
  omega
theorem vl_le (u j : Nat) : vl u j ≤ u := Nat.div_le_self _ _
theorem pow_le_nd (u : Nat) : 2 ≤ Lib.nDigits u → 10 ^ (Lib.nDigits u - 1) ≤ u := by
  induction u using Nat.strongRecOn with
  | _ u ih =>
    intro h
    by_cases hu : u < 10
    · rw [Lib.nDigits_small hu] at h; omega
    · have e := Lib.nDigits_big hu
      by_cases h2 : 2 ≤ Lib.nDigits (u / 10)
      · have := ih (u / 10) (by omega) h2
        rw [e, Nat.add_sub_cancel]
        have e2 : Lib.nDigits (u / 10) = Lib.nDigits (u / 10) - 1 + 1 := by omega
        rw [e2, Nat.pow_succ]
        omega
      · have := Lib.nDigits_pos (u / 10)
        have e3 : Lib.nDigits (u / 10) = 1 := by omega
        rw [e, e3]
        simp
        omega
theorem first_nz (u : Nat) (h : 2 ≤ Lib.nDigits u) : u / 10 ^ (Lib.nDigits u - 1 - 0) % 10 ≠ 0 := by
  have h1 := pow_le_nd u h
  have h2 := Lib.lt_pow_nDigits u
  have e : Lib.nDigits u = Lib.nDigits u - 1 + 1 := by omega
  rw [e, Nat.pow_succ] at h2
  have hp : 0 < 10 ^ (Lib.nDigits u - 1) := Nat.pow_pos (by omega)
  have h3 : 1 ≤ u / 10 ^ (Lib.nDigits u - 1) := (Nat.le_div_iff_mul_le hp).2 (by omega)
  have h4 : u / 10 ^ (Lib.nDigits u - 1) < 10 := (Nat.div_lt_iff_lt_mul hp).2 (by rw [Nat.mul_comm]; exact h2)
  rw [Nat.sub_zero, Nat.mod_eq_of_lt h4]
  omega

/-! ### The hex digits -/
theorem enc_hi (l : List UInt8) (j : Nat) (h : j < l.length) (h' : 2 * j < (Lib.Hx.encode l).length) : (Lib.Hx.encode l)[2 * j] = Lib.Hx.digit (l[j].toNat / 16) := by
  induction l generalizing j with
  | nil => simp at h
  | cons b r ih =>
    rcases j with _ | j
    · simp [Lib.Hx.encode]
    · have := ih j (by simpa using h) (by rw [Lib.Hx.encode_length] at h' ⊢; simp at h'; omega)
      simp only [Lib.Hx.encode, List.flatMap_cons] at this ⊢
      simp only [show 2 * (j + 1) = 2 * j + 1 + 1 by omega, List.cons_append, List.nil_append, List.getElem_cons_succ]
      exact this
theorem enc_lo (l : List UInt8) (j : Nat) (h : j < l.length) (h' : 2 * j + 1 < (Lib.Hx.encode l).length) : (Lib.Hx.encode l)[2 * j + 1] = Lib.Hx.digit (l[j].toNat % 16) := by
  induction l generalizing j with
  | nil => simp at h
  | cons b r ih =>
    rcases j with _ | j
    · simp [Lib.Hx.encode]
    · have := ih j (by simpa using h) (by rw [Lib.Hx.encode_length] at h' ⊢; simp at h'; omega)
      simp only [Lib.Hx.encode, List.flatMap_cons] at this ⊢
      simp only [show 2 * (j + 1) + 1 = 2 * j + 1 + 1 + 1 by omega, List.cons_append, List.nil_append, List.getElem_cons_succ]
      exact this
end Go.Proofs.Qxb6630671aDoor
