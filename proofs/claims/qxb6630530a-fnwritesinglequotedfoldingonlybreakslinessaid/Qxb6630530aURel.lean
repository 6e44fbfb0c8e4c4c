/-
  A folded text read back: the plain law. No Go in sight.
-/
import Derived.Test.Qxb6630530aFRel
namespace Go.Proofs.Qxb6630530a
set_option linter.unusedVariables false

theorem bt_right (p y : List UInt8) (j : Nat) : bt (p ++ y) (p.length + j) = bt y j := by
  unfold bt; rw [List.getElem?_append_right (by omega), show p.length + j - p.length = j by omega]
theorem bt_left (p y : List UInt8) (j : Nat) (h : j < p.length) : bt (p ++ y) j = bt p j := by
  unfold bt; rw [List.getElem?_append_left h]

/-- The text b, read from k on: what comes back, if all is as it should be. -/
def unf (b : List UInt8) (start pad : Nat) : Nat → Nat → List UInt8 → Int → Option (List UInt8 × Int)
  | 0, k, r, c => if b.length ≤ k then some (r, c) else none
  | n + 1, k, r, c =>
    if b.length ≤ k then some (r, c)
    else if bt b k ≠ 10 then unf b start pad n (k + 1) (r ++ [b.getD k 0]) (if bt b k < 128 ∨ 192 ≤ bt b k then c + 1 else c)
    else if k ≠ start ∧ bt b (k - 1) ≠ 32 ∧ 80 < c ∧ k + 1 + pad < b.length ∧ bt b (k + 1 + pad) ≠ 32 ∧ (sub b (k + 1) pad = List.replicate pad 32) then unf b start pad n (k + 1 + pad) (r ++ [32]) pad
    else none

section
variable {b : List UInt8} {start pad n k : Nat} {r : List UInt8} {c : Int} {F : List UInt8 × Int}

theorem unf_end (h : b.length ≤ k) : unf b start pad n k r c = some (r, c) := by
  cases n with
  | zero => rw [unf, if_pos h]
  | succ n => rw [unf, if_pos h]
theorem unf_byte (h : k < b.length) (h1 : bt b k ≠ 10) : unf b start pad (n + 1) k r c = unf b start pad n (k + 1) (r ++ [b.getD k 0]) (if bt b k < 128 ∨ 192 ≤ bt b k then c + 1 else c) := by
  rw [unf, if_neg (by omega), if_pos h1]
theorem unf_fold (h : k < b.length) (h1 : bt b k = 10) (h2 : k ≠ start ∧ bt b (k - 1) ≠ 32 ∧ 80 < c ∧ k + 1 + pad < b.length ∧ bt b (k + 1 + pad) ≠ 32 ∧ (sub b (k + 1) pad = List.replicate pad 32)) :
    unf b start pad (n + 1) k r c = unf b start pad n (k + 1 + pad) (r ++ [32]) pad := by
  rw [unf, if_neg (by omega), if_neg (by omega), if_pos h2]
/-- What a good reading says of the next step. -/
theorem unf_inv (hF : unf b start pad n k r c = some F) (h : k < b.length) : ∃ m, n = m + 1 ∧
    ((bt b k ≠ 10 ∧ unf b start pad m (k + 1) (r ++ [b.getD k 0]) (if bt b k < 128 ∨ 192 ≤ bt b k then c + 1 else c) = some F) ∨
     (bt b k = 10 ∧ (k ≠ start ∧ bt b (k - 1) ≠ 32 ∧ 80 < c ∧ k + 1 + pad < b.length ∧ bt b (k + 1 + pad) ≠ 32 ∧ (sub b (k + 1) pad = List.replicate pad 32)) ∧ unf b start pad m (k + 1 + pad) (r ++ [32]) pad = some F)) := by
  cases n with
  | zero => rw [unf, if_neg (by omega)] at hF; cases hF
  | succ m =>
    refine ⟨m, rfl, ?_⟩
    rw [unf, if_neg (by omega)] at hF
    by_cases h1 : bt b k ≠ 10
    · rw [if_pos h1] at hF; exact .inl ⟨h1, hF⟩
    · rw [if_neg h1] at hF
      split at hF
      · rename_i h2; exact .inr ⟨by omega, h2, hF⟩
      · cases hF
end

/-- A run of bytes that are no line feed. -/
def cc : List UInt8 → Nat
  | [] => 0
  | x :: t => (if x.toNat < 128 ∨ 192 ≤ x.toNat then 1 else 0) + cc t

theorem cc_cont {s : List UInt8} (m : Nat) : ∀ i, i + m ≤ s.length → (∀ j, j < m → 128 ≤ bt s (i + j) ∧ bt s (i + j) < 192) → cc (sub s i m) = 0 := by
  induction m with
  | zero => intro i _ _; simp [sub, cc]
  | succ m ih =>
    intro i hle hall
    have hlt : i < s.length := by omega
    have h0 := hall 0 (by omega)
    rw [Nat.add_zero, bt_lt hlt] at h0
    rw [sub_split hlt (m + 1) (by omega)]
    have h1 := ih (i + 1) (by omega) (fun j hj => by have := hall (j + 1) (by omega); rw [show i + 1 + j = i + (j + 1) by omega]; exact this)
    simp only [cc, Nat.add_sub_cancel, h1]
    rw [if_neg (by omega)]

theorem unf_run (start pad : Nat) : ∀ (y p z r : List UInt8) (c : Int) (m : Nat), (∀ x ∈ y, x.toNat ≠ 10) →
    unf (p ++ y ++ z) start pad (m + y.length) p.length r c = unf (p ++ y ++ z) start pad m (p.length + y.length) (r ++ y) (c + cc y) := by
  intro y
  induction y with
  | nil => intro p z r c m _; simp [cc]
  | cons x t ih =>
    intro p z r c m h
    have hx : bt (p ++ x :: t ++ z) p.length = x.toNat := by
      rw [List.append_assoc]
      have := bt_right p (x :: t ++ z) 0
      rw [Nat.add_zero] at this
      rw [this]; rfl
    have hg : (p ++ x :: t ++ z).getD p.length 0 = x := by
      rw [List.append_assoc]
      simp [List.getD]
    rw [show m + (x :: t).length = m + t.length + 1 by simp; omega, unf_byte (by simp) (by rw [hx]; exact h x (by simp)), hx, hg]
    have e : p ++ x :: t ++ z = (p ++ [x]) ++ t ++ z := by simp
    have hl : (p ++ [x]).length = p.length + 1 := by simp
    have := ih (p ++ [x]) z (r ++ [x]) (if x.toNat < 128 ∨ 192 ≤ x.toNat then c + 1 else c) m (fun q hq => h q (by simp [hq]))
    rw [hl, ← e] at this
    rw [this]
    congr 1
    · simp only [List.length_cons]; omega
    · simp
    · simp only [cc]; split <;> omega

/-- What is written grows at its end. -/
theorem lay_ext (s : List UInt8) (pad : Nat) (fold : Bool) : ∀ (n i : Nat) (sp : Bool) (l : List UInt8) (c : Int), (∀ j, j < s.length → brk s j = 0) → ∃ x, (lay s pad fold n i sp false l c).1 = l ++ x := by
  intro n
  induction n with
  | zero => intro i sp l c _; exact ⟨[], by simp [lay]⟩
  | succ n ih =>
    intro i sp l c hnb
    rcases Nat.lt_or_ge i s.length with hi | hi
    · by_cases h32 : bt s i = 32
      · by_cases hf : fold = true ∧ sp = false ∧ 80 < c ∧ 0 < i ∧ i + 1 < s.length ∧ bt s (i + 1) ≠ 32
        · rw [lay_fold hi h32 hf]
          obtain ⟨x, hx⟩ := ih (i + 1) true (l ++ 10 :: List.replicate pad 32) pad hnb
          exact ⟨_, by rw [hx, List.append_assoc]⟩
        · rw [lay_space hi h32 hf]
          obtain ⟨x, hx⟩ := ih (i + 1) true (l ++ [32]) (c + 1) hnb
          exact ⟨_, by rw [hx, List.append_assoc]⟩
      · rw [lay_char hi h32 (hnb i hi)]
        obtain ⟨x, hx⟩ := ih (i + cw (bt s i)) false _ _ hnb
        refine ⟨(if bt s i = 39 then [39] else []) ++ sub s i (cw (bt s i)) ++ x, ?_⟩
        rw [hx]
        by_cases h39 : bt s i = 39 <;> simp [h39]
    · rw [lay_end hi]; exact ⟨[], by simp⟩

/-- At a character, what follows does not open with a space. -/
theorem lay_head (s : List UInt8) (pad : Nat) (fold : Bool) (n i : Nat) (sp : Bool) (l : List UInt8) (c : Int) (hnb : ∀ j, j < s.length → brk s j = 0) (hi : i < s.length) (h32 : bt s i ≠ 32) :
    ∃ x, (lay s pad fold n i sp false l c).1 = l ++ x ∧ bt (x ++ [39]) 0 ≠ 32 := by
  cases n with
  | zero => exact ⟨[], by simp [lay], by simp [bt]⟩
  | succ n =>
    rw [lay_char hi h32 (hnb i hi)]
    obtain ⟨x, hx⟩ := lay_ext s pad fold n (i + cw (bt s i)) false _ _ hnb
    refine ⟨(if bt s i = 39 then [39] else []) ++ sub s i (cw (bt s i)) ++ x, ?_, ?_⟩
    · rw [hx]
      by_cases h39 : bt s i = 39 <;> simp [h39]
    · by_cases h39 : bt s i = 39
      · rw [if_pos h39]; simp [bt]
      · rw [if_neg h39, sub_split hi _ (cw_pos _)]
        rw [bt_lt hi] at h32
        simpa [bt] using h32

/-- READ BACK, A FOLDED TEXT IS THE UNFOLDED ONE. -/
theorem unf_lay (s : List UInt8) (pad start : Nat) (hnb : ∀ j, j < s.length → brk s j = 0) : ∀ (n i : Nat) (sp : Bool) (l r : List UInt8) (c : Int), s.length ≤ i + n → V s i → start < l.length →
    (sp = false → 0 < i → bt l (l.length - 1) ≠ 32) →
    ∃ m, unf ((lay s pad true n i sp false l c).1 ++ [39]) start pad m l.length r c = some (r ++ dbl (s.drop i) ++ [39], (lay s pad true n i sp false l c).2 + 1) := by
  intro n
  induction n with
  | zero =>
    intro i sp l r c hn hV hst hsp
    rw [lay_end (by omega), List.drop_eq_nil_of_le (by omega)]
    refine ⟨0 + ([39] : List UInt8).length, ?_⟩
    have := unf_run start pad [39] l [] r c 0 (by simp)
    rw [List.append_nil] at this
    show unf (l ++ [39]) start pad (0 + ([39] : List UInt8).length) l.length r c = some (r ++ dbl [] ++ [39], c + 1)
    rw [this, unf_end (by simp)]
    simp [dbl, cc]
  | succ n ih =>
    intro i sp l r c hn hV hst hsp
    rcases Nat.lt_or_ge i s.length with hi | hi
    · obtain ⟨e1, e2⟩ := dbl_char hV hi
      obtain ⟨v1, v2, v3, v4⟩ := V_inv hV hi
      have hp := cw_pos (bt s i)
      by_cases h32 : bt s i = 32
      · have ec : cw (bt s i) = 1 := by rw [h32]; rfl
        have e32 : s[i] = 32 := UInt8.toNat.inj (by rw [← bt_lt hi, h32]; rfl)
        have hd : dbl (s.drop i) = [32] ++ dbl (s.drop (i + 1)) := by
          rw [e1, ec, sub_split hi 1 (Nat.le_refl _), if_neg (by omega)]
          simp [e32, sub]
        by_cases hf : true = true ∧ sp = false ∧ 80 < c ∧ 0 < i ∧ i + 1 < s.length ∧ bt s (i + 1) ≠ 32
        · rw [lay_fold hi h32 hf]
          obtain ⟨_, g2, g3, g4, g5, g6⟩ := hf
          obtain ⟨x, hx, hx0⟩ := lay_head s pad true n (i + 1) true (l ++ 10 :: List.replicate pad 32) pad hnb g5 g6
          obtain ⟨m, hm⟩ := ih (i + 1) true (l ++ 10 :: List.replicate pad 32) (r ++ [32]) pad (by omega) (V_of hV hi h32) (by simp; omega) (fun h => by cases h)
          refine ⟨m + 1, ?_⟩
          have hb : (lay s pad true n (i + 1) true false (l ++ 10 :: List.replicate pad 32) pad).1 ++ [39] = l ++ ([10] ++ (List.replicate pad 32 ++ (x ++ [39]))) := by rw [hx]; simp
          have hk : (l ++ 10 :: List.replicate pad (32 : UInt8)).length = l.length + 1 + pad := by simp; omega
          rw [hk] at hm
          have b10 : bt ((lay s pad true n (i + 1) true false (l ++ 10 :: List.replicate pad 32) pad).1 ++ [39]) l.length = 10 := by
            rw [hb]
            have := bt_right l ([10] ++ (List.replicate pad 32 ++ (x ++ [39]))) 0
            rw [Nat.add_zero] at this
            rw [this]; rfl
          rw [unf_fold (by rw [hb]; simp) b10 ⟨by omega, ?_, g3, ?_, ?_, ?_⟩, hm, hd]
          · simp
          · rw [hb, bt_left _ _ _ (by omega)]; exact hsp g2 g4
          · rw [hb]; simp; omega
          · rw [hb, show l.length + 1 + pad = l.length + (1 + pad) by omega, bt_right]
            have e3 : bt ([10] ++ (List.replicate pad 32 ++ (x ++ [39]))) (1 + pad) = bt (List.replicate pad 32 ++ (x ++ [39])) pad := bt_right [10] _ pad
            have e4 := bt_right (List.replicate pad (32 : UInt8)) (x ++ [39]) 0
            rw [List.length_replicate, Nat.add_zero] at e4
            rw [e3, e4]; exact hx0
          · rw [hb]
            unfold sub
            rw [← List.append_assoc, List.drop_left' (by simp), List.take_left' (by simp)]
        · rw [lay_space hi h32 hf]
          obtain ⟨x, hx⟩ := lay_ext s pad true n (i + 1) true (l ++ [32]) (c + 1) hnb
          obtain ⟨m, hm⟩ := ih (i + 1) true (l ++ [32]) (r ++ [32]) (c + 1) (by omega) (V_of hV hi h32) (by simp; omega) (fun h => by cases h)
          refine ⟨m + ([32] : List UInt8).length, ?_⟩
          have hrun := unf_run start pad [32] l (x ++ [39]) r c m (by simp)
          have hb : (lay s pad true n (i + 1) true false (l ++ [32]) (c + 1)).1 ++ [39] = l ++ [32] ++ (x ++ [39]) := by rw [hx]; simp
          rw [hb] at hm ⊢
          rw [hrun]
          have hc : c + (cc [32] : Nat) = c + 1 := by simp [cc]
          rw [hc, show l.length + ([32] : List UInt8).length = (l ++ [32]).length by simp, hm, hd]
          simp
      · rw [lay_char hi h32 (hnb i hi)]
        obtain ⟨q, hq⟩ : ∃ q, cw (bt s i) = q := ⟨_, rfl⟩
        rw [hq] at e1 e2 v2 v3 v4 hp ⊢
        generalize hL : (if bt s i = 39 then (if false = true then indL pad l c else l) ++ [39] else if false = true then indL pad l c else l) ++ sub s i q = L
        generalize hC : (if bt s i = 39 then (if false = true then (pad : Int) else c) + 1 else if false = true then (pad : Int) else c) + 1 = C
        have hL' : L = l ++ ((if bt s i = 39 then [39] else []) ++ sub s i q) := by
          rw [← hL]; by_cases h39 : bt s i = 39 <;> simp [h39]
        have hC' : C = c + ((if bt s i = 39 then 1 else 0) + 1 : Nat) := by
          rw [← hC]
          by_cases h39 : bt s i = 39
          · simp [h39]; omega
          · simp [h39]
        have hlast : bt L (L.length - 1) ≠ 32 := by
          have hsl : (sub s i q).length = q := sub_length v2
          have hLl : L.length - 1 = (l ++ (if bt s i = 39 then [39] else [])).length + (q - 1) := by rw [hL']; simp only [List.length_append, hsl]; omega
          rw [hLl, hL', ← List.append_assoc, bt_right]
          have hbs : bt (sub s i q) (q - 1) = bt s (i + (q - 1)) := by
            unfold bt sub
            rw [List.getElem?_take_of_lt (by omega), List.getElem?_drop]
          rw [hbs]
          by_cases e : q = 1
          · rw [e]; simpa using h32
          · have := v3 (q - 1) (by omega) (by omega)
            omega
        have hst' : start < L.length := by rw [hL']; simp; omega
        obtain ⟨x, hx⟩ := lay_ext s pad true n (i + q) false L C hnb
        obtain ⟨m, hm⟩ := ih (i + q) false L (r ++ ((if bt s i = 39 then [39] else []) ++ sub s i q)) C (by omega) v4 hst' (fun _ _ => hlast)
        have hb : (lay s pad true n (i + q) false false L C).1 ++ [39] = l ++ ((if bt s i = 39 then [39] else []) ++ sub s i q) ++ (x ++ [39]) := by rw [hx, hL']; simp
        have hn10 : bt s i ≠ 10 := fun e => by
          have := hnb i hi
          unfold brk at this
          rw [if_pos (.inr e)] at this
          cases this
        have hno : ∀ y ∈ (if bt s i = 39 then [39] else []) ++ sub s i q, y.toNat ≠ 10 := by
          intro y hy
          rcases List.mem_append.1 hy with hy | hy
          · split at hy
            · rw [List.mem_singleton.1 hy]; decide
            · cases hy
          · obtain ⟨j, hj, rfl⟩ := List.mem_iff_getElem.1 hy
            have hjw : j < q := by rw [sub_length v2] at hj; exact hj
            have e : (sub s i q)[j].toNat = bt s (i + j) := by
              rw [bt_lt (by omega)]
              simp [sub]
            rw [e]
            by_cases hj0 : j = 0
            · subst hj0; exact hn10
            · have := v3 j (by omega) hjw
              omega
        have hcc : cc ((if bt s i = 39 then [39] else []) ++ sub s i q) = (if bt s i = 39 then 1 else 0) + 1 := by
          have h0 := cc_cont (s := s) (q - 1) (i + 1) (by omega) (fun j hj => by have := v3 (j + 1) (by omega) (by omega); rw [show i + 1 + j = i + (j + 1) by omega]; exact this)
          rw [sub_split hi _ hp]
          rw [bt_lt hi] at v1 ⊢
          by_cases h39 : s[i].toNat = 39
          · simp [h39, cc, h0]
          · simp [h39, cc, h0, v1]
        refine ⟨m + ((if bt s i = 39 then [39] else []) ++ sub s i q).length, ?_⟩
        have hrun := unf_run start pad ((if bt s i = 39 then [39] else []) ++ sub s i q) l (x ++ [39]) r c m hno
        rw [hb] at hm ⊢
        rw [hrun, hcc, ← hC']
        have hLlen : l.length + ((if bt s i = 39 then [39] else []) ++ sub s i q).length = L.length := by rw [hL']; simp
        rw [hLlen, hm, e1]
        simp
    · rw [lay_end hi, List.drop_eq_nil_of_le hi]
      refine ⟨0 + ([39] : List UInt8).length, ?_⟩
      have := unf_run start pad [39] l [] r c 0 (by simp)
      rw [List.append_nil] at this
      show unf (l ++ [39]) start pad (0 + ([39] : List UInt8).length) l.length r c = some (r ++ dbl [] ++ [39], c + 1)
      rw [this, unf_end (by simp)]
      simp [dbl, cc]
end Go.Proofs.Qxb6630530a
