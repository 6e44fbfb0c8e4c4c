/-
  The plain functions: bytes of a text, its line breaks, its characters, how a single-quoted scalar is laid out. No Go in sight.
-/
import Derived.KernelRfl
namespace Go.Proofs.Qxb6630530a
set_option linter.unusedVariables false

/-- The byte at i as a number; 256 behind the end. -/
def bt (s : List UInt8) (i : Nat) : Nat := (s[i]?.map UInt8.toNat).getD 256

theorem bt_lt {s : List UInt8} {i : Nat} (h : i < s.length) : bt s i = s[i].toNat := by simp [bt, List.getElem?_eq_getElem h]
theorem bt_256 {s : List UInt8} {i : Nat} (h : i < s.length) : bt s i < 256 := by rw [bt_lt h]; exact UInt8.toNat_lt _
theorem bt_out {s : List UInt8} {i : Nat} (h : s.length ≤ i) : bt s i = 256 := by simp [bt, List.getElem?_eq_none h]
theorem bt_in {s : List UInt8} {i : Nat} (h : bt s i < 256) : i < s.length := by
  rcases Nat.lt_or_ge i s.length with h' | h'
  · exact h'
  · rw [bt_out h'] at h; omega

/-- The width of the character that a byte opens. -/
def cw (b : Nat) : Nat := if b < 128 then 1 else if b < 224 then 2 else if b < 240 then 3 else 4
theorem cw_pos (b : Nat) : 1 ≤ cw b := by unfold cw; split <;> (try split) <;> (try split) <;> omega
theorem cw_le (b : Nat) : cw b ≤ 4 := by unfold cw; split <;> (try split) <;> (try split) <;> omega

/-- The length of the line break at i, or 0. -/
def brk (s : List UInt8) (i : Nat) : Nat :=
  if bt s i = 13 ∨ bt s i = 10 then 1
  else if bt s i = 194 ∧ bt s (i + 1) = 133 then 2
  else if bt s i = 226 ∧ bt s (i + 1) = 128 ∧ (bt s (i + 2) = 168 ∨ bt s (i + 2) = 169) then 3
  else 0

theorem brk_le (s : List UInt8) (i : Nat) : brk s i ≤ 3 := by unfold brk; split <;> (try split) <;> (try split) <;> omega
theorem brk_cw {s : List UInt8} {i : Nat} (h : brk s i ≠ 0) : brk s i = cw (bt s i) := by
  unfold brk at h ⊢
  by_cases h1 : bt s i = 13 ∨ bt s i = 10
  · rw [if_pos h1]; unfold cw; rw [if_pos (by omega)]
  · rw [if_neg h1] at h ⊢
    by_cases h2 : bt s i = 194 ∧ bt s (i + 1) = 133
    · rw [if_pos h2]; simp [cw, h2.1]
    · rw [if_neg h2] at h ⊢
      by_cases h3 : bt s i = 226 ∧ bt s (i + 1) = 128 ∧ (bt s (i + 2) = 168 ∨ bt s (i + 2) = 169)
      · rw [if_pos h3]; simp [cw, h3.1]
      · rw [if_neg h3] at h; omega
theorem brk_lt {s : List UInt8} {i : Nat} (h : brk s i ≠ 0) : i + brk s i ≤ s.length := by
  unfold brk at h ⊢
  by_cases h1 : bt s i = 13 ∨ bt s i = 10
  · rw [if_pos h1]; have := bt_in (s := s) (i := i) (by omega); omega
  · rw [if_neg h1] at h ⊢
    by_cases h2 : bt s i = 194 ∧ bt s (i + 1) = 133
    · rw [if_pos h2]; have := bt_in (s := s) (i := i + 1) (by omega); omega
    · rw [if_neg h2] at h ⊢
      by_cases h3 : bt s i = 226 ∧ bt s (i + 1) = 128 ∧ (bt s (i + 2) = 168 ∨ bt s (i + 2) = 169)
      · rw [if_pos h3]; have := bt_in (s := s) (i := i + 2) (by omega); omega
      · rw [if_neg h3] at h; omega
theorem brk_cont {s : List UInt8} {i : Nat} (h1 : 128 ≤ bt s i) (h2 : bt s i < 192) : brk s i = 0 := by
  unfold brk; rw [if_neg (by omega), if_neg (by omega), if_neg (by omega)]
theorem brk_32 {s : List UInt8} {i : Nat} (h1 : bt s i = 32) : brk s i = 0 := by
  unfold brk; rw [if_neg (by omega), if_neg (by omega), if_neg (by omega)]

/-- From i on the bytes are whole characters: an opening byte, and what belongs to it between 128 and 191. -/
def Vd (s : List UInt8) : Nat → Nat → Prop
  | 0, i => s.length ≤ i
  | n + 1, i => s.length ≤ i ∨ ((bt s i < 128 ∨ 192 ≤ bt s i) ∧ i + cw (bt s i) ≤ s.length ∧ (∀ j, 1 ≤ j → j < cw (bt s i) → 128 ≤ bt s (i + j) ∧ bt s (i + j) < 192) ∧ Vd s n (i + cw (bt s i)))
def V (s : List UInt8) (i : Nat) : Prop := ∃ n, Vd s n i

theorem V_end {s : List UInt8} {i : Nat} (h : s.length ≤ i) : V s i := ⟨0, h⟩
theorem V_char {s : List UInt8} {i : Nat} (h1 : bt s i < 128 ∨ 192 ≤ bt s i) (h2 : i + cw (bt s i) ≤ s.length) (h3 : ∀ j, 1 ≤ j → j < cw (bt s i) → 128 ≤ bt s (i + j) ∧ bt s (i + j) < 192) (h : V s (i + cw (bt s i))) : V s i := by
  obtain ⟨n, hn⟩ := h
  exact ⟨n + 1, .inr ⟨h1, h2, h3, hn⟩⟩
theorem V_ascii {s : List UInt8} {i : Nat} (h1 : bt s i < 128) (h : V s (i + 1)) : V s i := by
  have e : cw (bt s i) = 1 := by unfold cw; rw [if_pos h1]
  have := bt_in (s := s) (i := i) (by omega)
  exact V_char (.inl h1) (by rw [e]; omega) (fun j a b => by omega) (by rw [e]; exact h)
theorem V_inv {s : List UInt8} {i : Nat} (h : V s i) (hi : i < s.length) :
    (bt s i < 128 ∨ 192 ≤ bt s i) ∧ i + cw (bt s i) ≤ s.length ∧ (∀ j, 1 ≤ j → j < cw (bt s i) → 128 ≤ bt s (i + j) ∧ bt s (i + j) < 192) ∧ V s (i + cw (bt s i)) := by
  obtain ⟨n, hn⟩ := h
  cases n with
  | zero => exact absurd (show s.length ≤ i from hn) (by omega)
  | succ n =>
    rcases (show s.length ≤ i ∨ _ from hn) with h | ⟨a, b, c, d⟩
    · omega
    · exact ⟨a, b, c, n, d⟩
theorem V_brk {s : List UInt8} {i : Nat} (h : V s i) (hi : i < s.length) (hb : brk s i ≠ 0) : V s (i + brk s i) := by
  rw [brk_cw hb]; exact (V_inv h hi).2.2.2

/-- What 'isBreak' leans on. -/
theorem V_c2 {s : List UInt8} {i : Nat} (h : V s i) (hi : i < s.length) (h1 : bt s i = 194) : i + 1 < s.length := by
  have := (V_inv h hi).2.1; simp [cw, h1] at this; omega
theorem V_e2 {s : List UInt8} {i : Nat} (h : V s i) (hi : i < s.length) (h1 : bt s i = 226) : i + 2 < s.length := by
  have := (V_inv h hi).2.1; simp [cw, h1] at this; omega

/-- w bytes from i on. -/
def sub (s : List UInt8) (i w : Nat) : List UInt8 := (s.drop i).take w
theorem sub_length {s : List UInt8} {i w : Nat} (h : i + w ≤ s.length) : (sub s i w).length = w := by simp [sub]; omega

/-- To the indentation: on this line, or on a fresh one. -/
def indL (pad : Nat) (l : List UInt8) (col : Int) : List UInt8 := if col ≤ pad then l ++ List.replicate ((pad : Int) - col).toNat 32 else l ++ 10 :: List.replicate pad 32

/-- THE LAYOUT, from byte i on: 'sp': no fold may come now; 'br': the line's first character is still to come. -/
def lay (s : List UInt8) (pad : Nat) (fold : Bool) : Nat → Nat → Bool → Bool → List UInt8 → Int → List UInt8 × Int
  | 0, _, _, _, l, col => (l, col)
  | n + 1, i, sp, br, l, col =>
    if s.length ≤ i then (l, col)
    else if bt s i = 32 then
      if fold = true ∧ sp = false ∧ 80 < col ∧ 0 < i ∧ i + 1 < s.length ∧ bt s (i + 1) ≠ 32 then lay s pad fold n (i + 1) true br (l ++ 10 :: List.replicate pad 32) pad
      else lay s pad fold n (i + 1) true br (l ++ [32]) (col + 1)
    else if brk s i ≠ 0 then lay s pad fold n (i + brk s i) true true (l ++ sub s i (brk s i)) 0
    else lay s pad fold n (i + cw (bt s i)) false false
      ((if bt s i = 39 then (if br then indL pad l col else l) ++ [39] else (if br then indL pad l col else l)) ++ sub s i (cw (bt s i)))
      ((if bt s i = 39 then (if br then (pad : Int) else col) + 1 else (if br then (pad : Int) else col)) + 1)

section
variable {s : List UInt8} {pad : Nat} {fold : Bool} {n i : Nat} {sp br : Bool} {l : List UInt8} {col : Int}

theorem lay_end (h : s.length ≤ i) : lay s pad fold n i sp br l col = (l, col) := by
  cases n with
  | zero => rfl
  | succ n => rw [lay, if_pos h]
theorem lay_fold (h : i < s.length) (h1 : bt s i = 32) (h2 : fold = true ∧ sp = false ∧ 80 < col ∧ 0 < i ∧ i + 1 < s.length ∧ bt s (i + 1) ≠ 32) :
    lay s pad fold (n + 1) i sp br l col = lay s pad fold n (i + 1) true br (l ++ 10 :: List.replicate pad 32) pad := by
  rw [lay, if_neg (by omega), if_pos h1, if_pos h2]
theorem lay_space (h : i < s.length) (h1 : bt s i = 32) (h2 : ¬ (fold = true ∧ sp = false ∧ 80 < col ∧ 0 < i ∧ i + 1 < s.length ∧ bt s (i + 1) ≠ 32)) :
    lay s pad fold (n + 1) i sp br l col = lay s pad fold n (i + 1) true br (l ++ [32]) (col + 1) := by
  rw [lay, if_neg (by omega), if_pos h1, if_neg h2]
theorem lay_brk (h : i < s.length) (hb : brk s i ≠ 0) :
    lay s pad fold (n + 1) i sp br l col = lay s pad fold n (i + brk s i) true true (l ++ sub s i (brk s i)) 0 := by
  rw [lay, if_neg (by omega), if_neg (fun e => hb (brk_32 e)), if_pos hb]
theorem lay_char (h : i < s.length) (h1 : bt s i ≠ 32) (hb : brk s i = 0) :
    lay s pad fold (n + 1) i sp br l col = lay s pad fold n (i + cw (bt s i)) false false
      ((if bt s i = 39 then (if br then indL pad l col else l) ++ [39] else (if br then indL pad l col else l)) ++ sub s i (cw (bt s i)))
      ((if bt s i = 39 then (if br then (pad : Int) else col) + 1 else (if br then (pad : Int) else col)) + 1) := by
  rw [lay, if_neg (by omega), if_neg h1, if_neg (by omega)]
/-- At the end and at a break the two marks count for nothing. -/
theorem lay_marks (h : s.length ≤ i ∨ brk s i ≠ 0) (sp' br' : Bool) : lay s pad fold n i sp br l col = lay s pad fold n i sp' br' l col := by
  rcases h with h | h
  · rw [lay_end h, lay_end h]
  · cases n with
    | zero => rfl
    | succ n => have hi : i < s.length := by have := brk_lt h; omega
                rw [lay_brk hi h, lay_brk hi h]
/-- The indentation may be written ahead of the character. -/
theorem lay_ind (h : i < s.length) (h1 : bt s i ≠ 32) (hb : brk s i = 0) (sp' : Bool) : lay s pad fold (n + 1) i sp true l col = lay s pad fold (n + 1) i sp' false (indL pad l col) pad := by
  rw [lay_char h h1 hb, lay_char h h1 hb]
  rfl
end

/-- THE WHOLE SCALAR, from the emitter's state on. -/
def scalar (s : List UInt8) (pad : Nat) (fold ws : Bool) (l : List UInt8) (col : Int) : List UInt8 × Int :=
  let r := lay s pad fold s.length 0 false false ((if ws then l else l ++ [32]) ++ [39]) ((if ws then col else col + 1) + 1)
  (r.1 ++ [39], r.2 + 1)
end Go.Proofs.Qxb6630530a
