/-
  Folding only breaks lines: the plain law. 'dbl': every quote doubled; 'cnt': the characters that makes; 'unf': a folded text read back. No Go in sight.
-/
import Derived.Test.Qxb6630530aRel
namespace Go.Proofs.Qxb6630530a
set_option linter.unusedVariables false

def dbl1 (c : UInt8) : List UInt8 := if c.toNat = 39 then [39, c] else [c]
def cnt1 (c : UInt8) : Nat := (if c.toNat = 39 then 1 else 0) + if c.toNat < 128 ∨ 192 ≤ c.toNat then 1 else 0
def dbl : List UInt8 → List UInt8
  | [] => []
  | c :: t => dbl1 c ++ dbl t
def cnt : List UInt8 → Nat
  | [] => 0
  | c :: t => cnt1 c + cnt t

theorem dbl_append (a b : List UInt8) : dbl (a ++ b) = dbl a ++ dbl b := by
  induction a with
  | nil => rfl
  | cons c t ih => simp [dbl, ih]
theorem cnt_append (a b : List UInt8) : cnt (a ++ b) = cnt a + cnt b := by
  induction a with
  | nil => simp [cnt]
  | cons c t ih => simp [cnt, ih]; omega
theorem dbl_len (a : List UInt8) : (dbl a).length ≤ 2 * a.length := by
  induction a with
  | nil => simp [dbl]
  | cons c t ih =>
    have : (dbl1 c).length ≤ 2 := by unfold dbl1; split <;> simp
    simp [dbl]; omega
theorem cnt_le (a : List UInt8) : cnt a ≤ 2 * a.length := by
  induction a with
  | nil => simp [cnt]
  | cons c t ih =>
    have : cnt1 c ≤ 2 := by unfold cnt1; split <;> split <;> omega
    simp [cnt]; omega

section
variable {s : List UInt8} {i : Nat}

theorem drop_cons (h : i < s.length) : s.drop i = s[i] :: s.drop (i + 1) := List.drop_eq_getElem_cons h

/-- Bytes that belong to a character stand as they are, and count for nothing. -/
theorem dbl_cont (m : Nat) : ∀ i, i + m ≤ s.length → (∀ j, j < m → 128 ≤ bt s (i + j) ∧ bt s (i + j) < 192) → dbl (sub s i m) = sub s i m ∧ cnt (sub s i m) = 0 := by
  induction m with
  | zero => intro i _ _; simp [sub, dbl, cnt]
  | succ m ih =>
    intro i hle hall
    have hlt : i < s.length := by omega
    have h0 := hall 0 (by omega)
    rw [Nat.add_zero, bt_lt hlt] at h0
    have e : sub s i (m + 1) = s[i] :: sub s (i + 1) m := by unfold sub; rw [drop_cons hlt]; rfl
    obtain ⟨h1, h2⟩ := ih (i + 1) (by omega) (fun j hj => by have := hall (j + 1) (by omega); rw [show i + 1 + j = i + (j + 1) by omega]; exact this)
    rw [e]
    simp only [dbl, cnt, h1, h2]
    unfold dbl1 cnt1
    rw [if_neg (by omega), if_neg (by omega), if_neg (by omega)]
    exact ⟨rfl, rfl⟩

theorem sub_split (h : i < s.length) (w : Nat) (hw : 1 ≤ w) : sub s i w = s[i] :: sub s (i + 1) (w - 1) := by
  obtain ⟨m, rfl⟩ : ∃ m, w = m + 1 := ⟨w - 1, by omega⟩
  unfold sub; rw [drop_cons h]; rfl
theorem drop_sub (w : Nat) : s.drop i = sub s i w ++ s.drop (i + w) := by
  unfold sub
  rw [← List.drop_drop, List.take_append_drop]

/-- A whole character. -/
theorem dbl_char (hV : V s i) (hi : i < s.length) : dbl (s.drop i) = (if bt s i = 39 then [39] else []) ++ sub s i (cw (bt s i)) ++ dbl (s.drop (i + cw (bt s i))) ∧
    cnt (s.drop i) = (if bt s i = 39 then 1 else 0) + 1 + cnt (s.drop (i + cw (bt s i))) := by
  obtain ⟨v1, v2, v3, _⟩ := V_inv hV hi
  have hp := cw_pos (bt s i)
  rw [drop_sub (i := i) (cw (bt s i)), dbl_append, cnt_append, sub_split hi _ hp]
  obtain ⟨h1, h2⟩ := dbl_cont (s := s) (cw (bt s i) - 1) (i + 1) (by omega) (fun j hj => by have := v3 (j + 1) (by omega) (by omega); rw [show i + 1 + j = i + (j + 1) by omega]; exact this)
  simp only [dbl, cnt, h1, h2]
  rw [bt_lt hi] at v1 ⊢
  unfold dbl1 cnt1
  by_cases h : s[i].toNat = 39
  · simp [h]
  · simp [h, v1]
end

/-- Unfolded, the text stands as it is, its quotes doubled. -/
theorem lay_plain (s : List UInt8) (pad : Nat) (hnb : ∀ j, j < s.length → brk s j = 0) : ∀ (n i : Nat) (sp : Bool) (l : List UInt8) (c : Int), s.length ≤ i + n → V s i →
    lay s pad false n i sp false l c = (l ++ dbl (s.drop i), c + cnt (s.drop i)) := by
  intro n
  induction n with
  | zero =>
    intro i sp l c hn hV
    rw [lay_end (by omega), List.drop_eq_nil_of_le (by omega)]
    simp [dbl, cnt]
  | succ n ih =>
    intro i sp l c hn hV
    rcases Nat.lt_or_ge i s.length with hi | hi
    · obtain ⟨e1, e2⟩ := dbl_char hV hi
      have hp := cw_pos (bt s i)
      by_cases h32 : bt s i = 32
      · rw [lay_space hi h32 (fun h => by cases h.1), ih (i + 1) true _ _ (by omega) (V_of hV hi h32)]
        have ec : cw (bt s i) = 1 := by rw [h32]; rfl
        rw [e1, e2, ec, sub_split hi 1 (Nat.le_refl _)]
        have e32 : s[i] = 32 := UInt8.toNat.inj (by rw [← bt_lt hi, h32]; rfl)
        rw [if_neg (by omega), if_neg (by omega)]
        simp [e32, sub]
        omega
      · rw [lay_char hi h32 (hnb i hi), ih (i + cw (bt s i)) false _ _ (by omega) (V_inv hV hi).2.2.2]
        rw [e1, e2]
        by_cases h39 : bt s i = 39
        · simp [h39]; omega
        · simp [h39]; omega
    · rw [lay_end hi, List.drop_eq_nil_of_le hi]
      simp [dbl, cnt]
end Go.Proofs.Qxb6630530a
