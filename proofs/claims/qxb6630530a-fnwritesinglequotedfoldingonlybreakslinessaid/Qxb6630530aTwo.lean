/-
  Joints for the second law: an emitter over a copy, its run, what is kept.
-/
import Derived.Test.Qxb6630530aWrap
namespace Go.Proofs.Qxb6630530a.Two
open Go.RowKit
set_option linter.unusedVariables false

theorem hid {p : Prop} (h : p) : Hid p := h

/-- The emitter over a buffer that was there before its own block. -/
theorem em_new {N : Nat} {w1 w2 w3 : World} {v1 : Value} {l : List UInt8} {col ind : Int} {ws inn : Bool} (hB : Bf (fun k => k < N) w1 v1 l) (h12 : Keep (fun k => k < w1.heap.size) w1 w2) (h23 : Keep (fun k => k < w2.heap.size) w2 w3)
    (hbox : Box w3 w2.heap.size v1 col ind ws inn) : Em (fun k => k < w2.heap.size ∧ v1.ownBlock ≠ some k) w3 w3 w2.heap.size l col ind ws inn := by
  refine ⟨v1, Keep.refl _ _, fun h => Nat.lt_irrefl _ h.1, hbox, ?_, ?_, ?_⟩
  · refine own_of_block hB.own fun k hk => ?_
    have hlt := (hB.own.lt k hk).2
    rw [h23.block k (Nat.lt_of_lt_of_le hlt h12.size), h12.block k hlt]
  · have hE : w2.heap.size < w3.heap.size := by
      have := hbox
      unfold Box at this
      exact (Array.getElem?_eq_some_iff.1 this).1
    rintro k (h | h)
    · exact Nat.lt_trans h.1 hE
    · rw [h]; exact hE
  · rintro k (h | h)
    · exact h.2
    · intro e
      have := (hB.own.lt k e).2
      have := h12.size
      omega

theorem zzwsq_at {S : Nat → Prop} {W w : World} {E : Nat} {l : List UInt8} {col ind : Int} {ws inn : Bool} (h : Em S W w E l col ind ws inn) (s : ByteArray) (fold : Bool) (pad : Nat) (hp : max ind 0 = (pad : Int)) (hpad : pad ≤ 65536)
    (hs : s.size ≤ 1048576) (hV : V s.data.toList 0) (hl : l.length ≤ 2097152) (h1 : -1073741824 ≤ col) (h2 : col ≤ 1073741824) (R : List UInt8 × Int) (hS : scalar s.data.toList pad fold ws l col = R) :
    Calls Try.prog 10 #[.pointer (some ⟨E, 0, none⟩), .string s, .bool fold] w fun e w' => e = .returned (.tuple #[]) ∧ Em S W w' E R.1 R.2 ind false false := by
  subst hS
  exact zzwsq_any h s fold pad hp hpad hs hV hl h1 h2

theorem lay_len (s : List UInt8) (pad : Nat) (hp : pad ≤ 65536) (fold : Bool) : ∀ (n i : Nat) (sp br : Bool) (l : List UInt8) (c : Int), V s i → i ≤ s.length → (br = true → 0 ≤ c) → (lay s pad fold n i sp br l c).1.length ≤ l.length + (s.length - i) * 70000 := by
  intro n
  induction n with
  | zero => intro i sp br l c _ _ _; simp [lay]
  | succ n ih =>
    intro i sp br l c hV hi hc
    rcases Nat.lt_or_ge i s.length with hlt | hge
    · by_cases h32 : bt s i = 32
      · have hV' := V_of hV hlt h32
        by_cases hf : fold = true ∧ sp = false ∧ 80 < c ∧ 0 < i ∧ i + 1 < s.length ∧ bt s (i + 1) ≠ 32
        · rw [lay_fold hlt h32 hf]
          have := ih (i + 1) true br (l ++ 10 :: List.replicate pad 32) pad hV' (by omega) (by omega)
          rw [List.length_append, List.length_cons, List.length_replicate] at this
          omega
        · rw [lay_space hlt h32 hf]
          have := ih (i + 1) true br (l ++ [32]) (c + 1) hV' (by omega) (fun h => by have := hc h; omega)
          rw [List.length_append, List.length_singleton] at this
          omega
      · by_cases hb : brk s i = 0
        · rw [lay_char hlt h32 hb]
          obtain ⟨v1, v2, v3, v4⟩ := V_inv hV hlt
          have hp1 := cw_pos (bt s i)
          have hp4 := cw_le (bt s i)
          have hx : (if br then indL pad l c else l).length ≤ l.length + 65537 := by
            cases br
            · simp
            · have := indL_len pad l c (hc rfl); simp; omega
          refine Nat.le_trans (ih (i + cw (bt s i)) false false _ _ v4 v2 (fun h => by cases h)) ?_
          rw [List.length_append, sub_length v2]
          split
          · rw [List.length_append]; simp only [List.length_singleton]; omega
          · omega
        · rw [lay_brk hlt hb]
          have hle := brk_lt hb
          have h3 := brk_le s i
          have := ih (i + brk s i) true true (l ++ sub s i (brk s i)) 0 (V_brk hV hlt hb) hle (fun _ => Int.le_refl _)
          rw [List.length_append, sub_length hle] at this
          omega
    · rw [lay_end hge]; show l.length ≤ _; omega

theorem scalar_len (s : List UInt8) (pad : Nat) (hp : pad ≤ 65536) (fold ws : Bool) (l : List UInt8) (c : Int) (hV : V s 0) (hs : s.length ≤ 1048576) (hl : l.length ≤ 1048576) : (scalar s pad fold ws l c).1.length ≤ 100000000000 := by
  unfold scalar
  have h := lay_len s pad hp fold s.length 0 false false ((if ws then l else l ++ [32]) ++ [39]) ((if ws then c else c + 1) + 1) hV (Nat.zero_le _) (fun h => by cases h)
  simp only [List.length_append, List.length_singleton] at h ⊢
  have hx : (if ws = true then l else l ++ [32]).length ≤ l.length + 1 := by cases ws <;> simp
  omega

/-- All that was there is there: the emitter is as it was. -/
theorem Em_keep {S : Nat → Prop} {W w w' : World} {E : Nat} {l : List UInt8} {col ind : Int} {ws inn : Bool} (h : Em S W w E l col ind ws inn) (k : Keep (fun k => k < w.heap.size) w w') : Em S W w' E l col ind ws inn := by
  obtain ⟨v, hk, hn, hbox, hB⟩ := h
  have hE : E < w.heap.size := hB.lt E (.inr rfl)
  refine ⟨v, hk.trans (k.mono fun j hj => hB.lt j (.inl hj)), hn, (k.block E hE).trans hbox, ?_, fun j hj => Nat.lt_of_lt_of_le (hB.lt j hj) k.size, hB.far⟩
  exact own_of_block hB.own fun j hj => k.block j (hB.own.lt j hj).2

theorem own_keep {w w' : World} {v : Value} {l : List UInt8} (h : w.ownsRow 0 5 1 v l.length (bv l)) (k : Keep (fun k => k < w.heap.size) w w') : w'.ownsRow 0 5 1 v l.length (bv l) :=
  own_of_block h fun j hj => k.block j (h.lt j hj).2

theorem keep_step {N : Nat} {w w' w'' : World} (h : Keep (fun k => k < N) w w') (k : Keep (fun k => k < w'.heap.size) w' w'') (hN : N ≤ w'.heap.size) : Keep (fun k => k < N) w w'' := h.trans (k.mono fun _ hj => Nat.lt_of_lt_of_le hj hN)
end Go.Proofs.Qxb6630530a.Two
