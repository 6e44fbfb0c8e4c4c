/-
  The line model's loops: what holds at each loop's head, and what each way makes of it. No Go in sight.
-/
import Derived.Test.Qxb6630530aRel
namespace Go.Proofs.Qxb6630530a
set_option linter.unusedVariables false

/-- j: where the line that begins at i ends. -/
structure Jok (s : List UInt8) (i j : Nat) : Prop where
  le : i ≤ j
  len : j ≤ s.length
  all : ∀ t, i ≤ t → t < j → brk s t = 0
  stop : j = s.length ∨ brk s j ≠ 0

/-- The outer loop's head. -/
structure Outer (s : List UInt8) (pad : Nat) (fold : Bool) (R : List UInt8 × Int) (first : Bool) (i : Nat) (l : List UInt8) (c : Int) : Prop where
  hi : i ≤ s.length
  hV : V s i
  hR : ∃ m, s.length ≤ i + m ∧ lay s pad fold m i (!first) (!first) l (if first then c else 0) = R
  h0 : first = true → i = 0
  hl : l.length ≤ 2097154 + i * 70000
  c1 : -2000000000 ≤ c
  c2 : c ≤ 4000000000 + 2 * i

/-- The loop over a line's leading spaces. -/
structure Lead (s : List UInt8) (pad : Nat) (fold : Bool) (R : List UInt8 × Int) (j k : Nat) (l : List UInt8) (c : Int) : Prop where
  hk : k ≤ j
  hV : V s k
  hR : ∃ m, s.length ≤ k + m ∧ lay s pad fold m k true true l c = R
  hl : l.length ≤ 2097154 + k * 70000
  c1 : 0 ≤ c
  c2 : c ≤ 4000000000 + 2 * k

/-- The loop over the rest of the line. -/
structure Main (s : List UInt8) (pad : Nat) (fold : Bool) (R : List UInt8 × Int) (j k : Nat) (l : List UInt8) (c : Int) : Prop where
  hk : k ≤ j
  hV : V s k
  hR : ∃ m sp br, s.length ≤ k + m ∧ lay s pad fold m k sp br l c = R ∧ (k < j → br = false ∧ (bt s k = 32 → 0 < k → (sp = true ↔ bt s (k - 1) = 32)))
  hl : l.length ≤ 2097154 + k * 70000 + 65538
  c1 : -2000000000 ≤ c
  c2 : c ≤ 4000000000 + 2 * k

section
variable {s : List UInt8} {pad : Nat} {fold : Bool} {R : List UInt8 × Int} {i j k : Nat} {l : List UInt8} {c : Int}

theorem Outer.lead (h : Outer s pad fold R false i l c) (hJ : Jok s i j) : Lead s pad fold R j i l 0 := by
  obtain ⟨m, a, b⟩ := h.hR
  exact ⟨hJ.le, h.hV, ⟨m, a, b⟩, h.hl, Int.le_refl _, by omega⟩

theorem Outer.main (h : Outer s pad fold R true i l c) (hJ : Jok s i j) : Main s pad fold R j i l c := by
  obtain ⟨m, a, b⟩ := h.hR
  have := h.h0 rfl
  have := h.hl
  exact ⟨hJ.le, h.hV, ⟨m, false, false, a, b, fun _ => ⟨rfl, fun _ h => by omega⟩⟩, by omega, h.c1, h.c2⟩

theorem Lead.space (h : Lead s pad fold R j k l c) (hlt : k < j) (hj : j ≤ s.length) (h1 : bt s k = 32) : Lead s pad fold R j (k + 1) (l ++ [32]) (c + 1) := by
  obtain ⟨m, a, b⟩ := h.hR
  have h2 := h.hl
  have h3 := h.c1
  have h4 := h.c2
  refine ⟨by omega, V_of h.hV (by omega) h1, ?_, by simp; omega, by omega, by omega⟩
  cases m with
  | zero => omega
  | succ m => exact ⟨m, by omega, by rw [← b, lay_space (by omega) h1 (fun h => by cases h.2.1)]⟩

theorem Lead.ind (h : Lead s pad fold R j k l c) (hp : pad ≤ 65536) (hlt : k < j) (hj : j ≤ s.length) (h1 : bt s k ≠ 32) (hb : brk s k = 0) : Main s pad fold R j k (indL pad l c) pad := by
  obtain ⟨m, a, b⟩ := h.hR
  have h2 := h.hl
  have h5 := indL_len pad l c h.c1
  refine ⟨by omega, h.hV, ?_, by omega, by omega, by omega⟩
  cases m with
  | zero => omega
  | succ m => exact ⟨m + 1, false, false, by omega, by rw [← b, lay_ind (by omega) h1 hb false], fun _ => ⟨rfl, fun h => absurd h h1⟩⟩

theorem Lead.stop (h : Lead s pad fold R j k l c) (hlt : ¬ k < j) : Main s pad fold R j k l c := by
  obtain ⟨m, a, b⟩ := h.hR
  have h2 := h.hl
  have h3 := h.c1
  exact ⟨h.hk, h.hV, ⟨m, true, true, a, b, fun h => absurd h hlt⟩, by omega, by omega, h.c2⟩

theorem Main.onFold (h : Main s pad fold R j k l c) (hp : pad ≤ 65536) (hlt : k < j) (hj : j ≤ s.length) (h1 : bt s k = 32) (g1 : fold = true) (g2 : 80 < c) (g3 : 0 < k) (g4 : bt s (k - 1) ≠ 32) (g5 : k + 1 < s.length) (g6 : bt s (k + 1) ≠ 32) :
    Main s pad fold R j (k + 1) (l ++ 10 :: List.replicate pad 32) pad := by
  obtain ⟨m, sp, br, a, b, d⟩ := h.hR
  obtain ⟨hbr, hsp⟩ := d hlt
  have hs := hsp h1 g3
  have hsp' : sp = false := by
    cases sp
    · rfl
    · exact absurd (hs.1 rfl) g4
  have h2 := h.hl
  refine ⟨by omega, V_of h.hV (by omega) h1, ?_, by rw [List.length_append, List.length_cons, List.length_replicate]; omega, by omega, by omega⟩
  cases m with
  | zero => omega
  | succ m => exact ⟨m, true, br, by omega, by rw [← b, lay_fold (by omega) h1 ⟨g1, hsp', g2, g3, g5, g6⟩], fun _ => ⟨hbr, fun _ _ => by simp [h1]⟩⟩

theorem Main.onSpace (h : Main s pad fold R j k l c) (hlt : k < j) (hj : j ≤ s.length) (h1 : bt s k = 32) (g : ¬ (fold = true ∧ 80 < c ∧ 0 < k ∧ bt s (k - 1) ≠ 32 ∧ k + 1 < s.length ∧ bt s (k + 1) ≠ 32)) :
    Main s pad fold R j (k + 1) (l ++ [32]) (c + 1) := by
  obtain ⟨m, sp, br, a, b, d⟩ := h.hR
  obtain ⟨hbr, hsp⟩ := d hlt
  have h2 := h.hl
  have h3 := h.c1
  have h4 := h.c2
  have g' : ¬ (fold = true ∧ sp = false ∧ 80 < c ∧ 0 < k ∧ k + 1 < s.length ∧ bt s (k + 1) ≠ 32) := by
    rintro ⟨a1, a2, a3, a4, a5, a6⟩
    refine g ⟨a1, a3, a4, fun e => ?_, a5, a6⟩
    rw [(hsp h1 a4).2 e] at a2
    cases a2
  refine ⟨by omega, V_of h.hV (by omega) h1, ?_, by rw [List.length_append, List.length_singleton]; omega, by omega, by omega⟩
  cases m with
  | zero => omega
  | succ m => exact ⟨m, true, br, by omega, by rw [← b, lay_space (by omega) h1 g'], fun _ => ⟨hbr, fun _ _ => by simp [h1]⟩⟩

theorem char_le (hV : V s k) (hJ : Jok s i j) (hik : i ≤ k) (hlt : k < j) : k + cw (bt s k) ≤ j := by
  have hks : k < s.length := Nat.lt_of_lt_of_le hlt hJ.len
  obtain ⟨_, hle, hc, _⟩ := V_inv hV hks
  rcases Nat.lt_or_ge j (k + cw (bt s k)) with h | h
  · exfalso
    rcases hJ.stop with e | e
    · omega
    · have hh := hc (j - k) (by omega) (by omega)
      rw [show k + (j - k) = j by omega] at hh
      exact e (brk_cont hh.1 hh.2)
  · exact h

theorem Main.onChar (h : Main s pad fold R j k l c) (hJ : Jok s i j) (hik : i ≤ k) (hlt : k < j) (h1 : bt s k ≠ 32) (w : Nat) (hw : cw (bt s k) = w) :
    k + w ≤ j ∧ Main s pad fold R j (k + w) ((if bt s k = 39 then l ++ [39] else l) ++ sub s k w) ((if bt s k = 39 then c + 1 else c) + 1) := by
  subst hw
  have hks : k < s.length := Nat.lt_of_lt_of_le hlt hJ.len
  have hb := hJ.all k hik hlt
  have hle := char_le h.hV hJ hik hlt
  obtain ⟨m, sp, br, a, b, d⟩ := h.hR
  obtain ⟨hbr, _⟩ := d hlt
  obtain ⟨v1, v2, v3, v4⟩ := V_inv h.hV hks
  have hp1 := cw_pos (bt s k)
  have hp4 := cw_le (bt s k)
  have h2 := h.hl
  have h3 := h.c1
  have h4 := h.c2
  refine ⟨hle, hle, v4, ?_, ?_, ?_, ?_⟩
  · cases m with
    | zero => omega
    | succ m =>
      refine ⟨m, false, false, by omega, ?_, fun _ => ⟨rfl, fun _ _ => ?_⟩⟩
      · rw [← b, lay_char hks h1 hb, hbr]
        rfl
      · have hlast : bt s (k + cw (bt s k) - 1) ≠ 32 := by
          by_cases e : cw (bt s k) = 1
          · rw [e]; simpa using h1
          · have := v3 (cw (bt s k) - 1) (by omega) (by omega)
            rw [show k + cw (bt s k) - 1 = k + (cw (bt s k) - 1) by omega]
            omega
        simp [hlast]
  · rw [List.length_append, sub_length v2]
    split
    · rw [List.length_append]; simp; omega
    · omega
  · split <;> omega
  · split <;> omega

theorem Main.done (h : Main s pad fold R j k l c) (hk : ¬ k < j) (hj : s.length ≤ j) : R = (l, c) := by
  obtain ⟨m, sp, br, a, b, d⟩ := h.hR
  have := h.hk
  rw [← b, lay_end (by omega)]

theorem Main.onBrk (h : Main s pad fold R j k l c) (hJ : Jok s i j) (hk : ¬ k < j) (hj : j < s.length) (q : Nat) (hq : brk s j = q) :
    q ≠ 0 ∧ j + q ≤ s.length ∧ Outer s pad fold R false (j + q) (l ++ sub s j q) c := by
  subst hq
  have hkj : k = j := by have := h.hk; omega
  subst hkj
  obtain ⟨m, sp, br, a, b, d⟩ := h.hR
  have hb : brk s k ≠ 0 := by
    rcases hJ.stop with e | e
    · omega
    · exact e
  have hle := brk_lt hb
  have h2 := h.hl
  have h3 := h.c1
  have h4 := h.c2
  refine ⟨hb, hle, hle, V_brk h.hV hj hb, ?_, (fun h => by cases h), ?_, h3, by omega⟩
  · cases m with
    | zero => omega
    | succ m => exact ⟨m, by omega, by rw [← b, lay_brk hj hb]; rfl⟩
  · rw [List.length_append, sub_length hle]
    have := brk_le s k
    omega
end
end Go.Proofs.Qxb6630530a
