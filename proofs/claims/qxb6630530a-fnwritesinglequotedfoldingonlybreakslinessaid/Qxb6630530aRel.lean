/-
  What holds at the head of the emitter's loop, and what each way of a round makes of it. No Go in sight.
-/
import Derived.Test.Qxb6630530aPlain
namespace Go.Proofs.Qxb6630530a
set_option linter.unusedVariables false

/-- At byte i: 'spE', 'br': the loop's two marks; l, c, inn: what is written, the column, the mark 'indention'; R: what the whole comes to. -/
structure WR (s : List UInt8) (pad : Nat) (fold : Bool) (R : List UInt8 × Int) (L0 : Nat) (i : Nat) (spE br : Bool) (l : List UInt8) (c : Int) (inn : Bool) : Prop where
  hi : i ≤ s.length
  hV : V s i
  hR : ∃ n sp, s.length ≤ i + n ∧ lay s pad fold n i sp br l c = R ∧ (spE = sp ∨ (br = true ∧ sp = true ∧ c = 0)) ∧ (br = true → sp = true)
  f2 : br = true → inn = true
  f3 : br = false → spE = false → inn = false
  f5 : br = true → 0 ≤ c
  hl : l.length ≤ L0 + i * 70000
  c1 : -2000000000 ≤ c
  c2 : c ≤ 4000000000 + 2 * i

section
variable {s : List UInt8} {pad : Nat} {fold : Bool} {R : List UInt8 × Int} {L0 i : Nat} {spE br : Bool} {l : List UInt8} {c : Int} {inn : Bool}

theorem V_of (hV : V s i) (hi : i < s.length) (h1 : bt s i = 32) : V s (i + 1) := by
  have := (V_inv hV hi).2.2.2
  rw [h1] at this
  exact this

theorem WR.done (h : WR s pad fold R L0 i spE br l c inn) (hi : s.length ≤ i) : R = (l, c) := by
  obtain ⟨n, sp, _, h2, _⟩ := h.hR
  rw [← h2, lay_end hi]

theorem WR.onFold (h : WR s pad fold R L0 i spE br l c inn) (hp : pad ≤ 65536) (hi : i < s.length) (h1 : bt s i = 32) (g1 : fold = true) (g2 : spE = false) (g3 : 80 < c) (g4 : 0 < i) (g5 : i + 1 < s.length) (g6 : bt s (i + 1) ≠ 32) :
    inn = false ∧ WR s pad fold R L0 (i + 1) true br (l ++ 10 :: List.replicate pad 32) pad true := by
  obtain ⟨n, sp, a, b, d, e⟩ := h.hR
  have hsp : sp = false := by
    rcases d with d | ⟨_, _, d⟩
    · rw [← d]; exact g2
    · omega
  have hbr : br = false := by
    cases br
    · rfl
    · rw [e rfl] at hsp; cases hsp
  refine ⟨h.f3 hbr g2, ⟨by omega, V_of h.hV hi h1, ?_, ?_, ?_, ?_, ?_, ?_, ?_⟩⟩
  · cases n with
    | zero => omega
    | succ n => exact ⟨n, true, by omega, by rw [← b, lay_fold hi h1 ⟨g1, hsp, g3, g4, g5, g6⟩], .inl rfl, fun _ => rfl⟩
  · intro _; rfl
  · intro _ h; cases h
  · intro h; rw [hbr] at h; cases h
  · have := h.hl; simp; omega
  · omega
  · omega

theorem WR.onSpace (h : WR s pad fold R L0 i spE br l c inn) (hi : i < s.length) (h1 : bt s i = 32) (g : ¬ (fold = true ∧ spE = false ∧ 80 < c ∧ 0 < i ∧ i + 1 < s.length ∧ bt s (i + 1) ≠ 32)) :
    WR s pad fold R L0 (i + 1) true br (l ++ [32]) (c + 1) inn := by
  obtain ⟨n, sp, a, b, d, e⟩ := h.hR
  have g' : ¬ (fold = true ∧ sp = false ∧ 80 < c ∧ 0 < i ∧ i + 1 < s.length ∧ bt s (i + 1) ≠ 32) := by
    rintro ⟨a1, a2, a3, a4⟩
    rcases d with d | ⟨_, d, _⟩
    · exact g ⟨a1, by rw [d]; exact a2, a3, a4⟩
    · rw [d] at a2; cases a2
  refine ⟨by omega, V_of h.hV hi h1, ?_, h.f2, ?_, ?_, ?_, ?_, ?_⟩
  · cases n with
    | zero => omega
    | succ n => exact ⟨n, true, by omega, by rw [← b, lay_space hi h1 g'], .inl rfl, fun _ => rfl⟩
  · intro _ h; cases h
  · intro hb; have := h.f5 hb; omega
  · have := h.hl; simp; omega
  · have := h.c1; omega
  · have := h.c2; omega

theorem WR.onBrk (h : WR s pad fold R L0 i spE br l c inn) (hi : i < s.length) (k : Nat) (hk : brk s i = k) (hb : k ≠ 0) :
    WR s pad fold R L0 (i + k) spE true (l ++ sub s i k) 0 true := by
  subst hk
  obtain ⟨n, sp, a, b, d, e⟩ := h.hR
  have hle := brk_lt hb
  have h3 := brk_le s i
  refine ⟨hle, V_brk h.hV hi hb, ?_, fun _ => rfl, ?_, fun _ => Int.le_refl _, ?_, by omega, by omega⟩
  · cases n with
    | zero => omega
    | succ n =>
      refine ⟨n, true, by omega, by rw [← b, lay_brk hi hb], ?_, fun _ => rfl⟩
      cases spE
      · exact .inr ⟨rfl, rfl, rfl⟩
      · exact .inl rfl
  · intro h; cases h
  · have := h.hl; rw [List.length_append, sub_length hle]; omega

theorem indL_len (pad : Nat) (l : List UInt8) (c : Int) (h : 0 ≤ c) : (indL pad l c).length ≤ l.length + pad + 1 := by
  unfold indL
  split <;> simp <;> omega

theorem WR.onChar (h : WR s pad fold R L0 i spE br l c inn) (hp : pad ≤ 65536) (hi : i < s.length) (h1 : bt s i ≠ 32) (hb : brk s i = 0) (k : Nat) (hk : cw (bt s i) = k) :
    i + k ≤ s.length ∧ WR s pad fold R L0 (i + k) false false
      ((if bt s i = 39 then (if br then indL pad l c else l) ++ [39] else (if br then indL pad l c else l)) ++ sub s i k)
      ((if bt s i = 39 then (if br then (pad : Int) else c) + 1 else (if br then (pad : Int) else c)) + 1) false := by
  subst hk
  obtain ⟨n, sp, a, b, d, e⟩ := h.hR
  have hle := (V_inv h.hV hi).2.1
  have hp1 := cw_pos (bt s i)
  have hp4 := cw_le (bt s i)
  have hc1 := h.c1
  have hc2 := h.c2
  have hll := h.hl
  refine ⟨hle, hle, (V_inv h.hV hi).2.2.2, ?_, ?_, fun _ _ => rfl, ?_, ?_, ?_, ?_⟩
  · cases n with
    | zero => omega
    | succ n => exact ⟨n, false, by omega, by rw [← b, lay_char hi h1 hb], .inl rfl, fun h => by cases h⟩
  · intro h; cases h
  · intro h; cases h
  · have hx : (if br then indL pad l c else l).length ≤ l.length + 65537 := by
      cases br
      · simp
      · have := indL_len pad l c (h.f5 rfl); simp; omega
    rw [List.length_append, sub_length hle]
    split
    · rw [List.length_append]; simp; omega
    · omega
  · cases br <;> simp <;> split <;> omega
  · cases br <;> simp <;> split <;> omega
end
end Go.Proofs.Qxb6630530a
