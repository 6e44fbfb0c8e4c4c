/-
  What a round of the parse reads.
-/
import Derived.Test.Qxb6630671aDoorParse
namespace Go.Proofs.Qxb6630671aDoor
set_option linter.unusedVariables false
set_option linter.unusedSimpArgs false

/-- All that a round of the parse reads: the entry of the block (L, S) behind a separator where k > 0. -/
structure Rd (s : ByteArray) (k p : Nat) (L : Int) (S : List UInt8) (P1 P N u q : Nat) : Prop where
  first : k = 0 → P1 = p
  later : 0 < k → P1 = p + 2 ∧ ∃ (h0 : p < s.size) (h1 : p + 1 < s.size), s[p] = 44 ∧ s[p + 1] = 32
  mag : u = L.natAbs
  neg : L < 0 → P = P1 + 1 ∧ ∃ h : P1 < s.size, s[P1] = 45
  pos : ¬ L < 0 → P = P1 ∧ ∃ h : P1 < s.size, s[P1] ≠ 45
  dig : ∀ j, j < N → ∃ (h : P + j < s.size) (d : Nat), d ≤ 9 ∧ s[P + j].toNat = 48 + d ∧ vl u (j + 1) = vl u j * 10 + d
  v0 : vl u 0 = 0
  vN : vl u N = u
  vle : ∀ j, vl u j ≤ u
  N0 : 0 < N
  N1 : N ≤ 20
  lead : 1 < N → ∃ h : P < s.size, s[P] ≠ 48
  blank : ∃ h : P + N < s.size, s[P + N] = 32
  sha : (s.extract (P + N + 1) (P + N + 1 + 7)).data.toList = sha
  room : P + N + 72 ≤ s.size
  hex : ∀ j, j < 32 → ∃ (c : UInt8) (h0 : P + N + 8 + 2 * j < s.size) (h1 : P + N + 8 + 2 * j + 1 < s.size), S[j]? = some c ∧ s[P + N + 8 + 2 * j] = Lib.Hx.digit (c.toNat / 16) ∧ s[P + N + 8 + 2 * j + 1] = Lib.Hx.digit (c.toNat % 16)
  next : q = P + N + 72

theorem itoa_neg (l : Int) (h : l < 0) : Lib.itoa l = [45] ++ Lib.decDigits l.natAbs := by
  unfold Lib.itoa
  rw [if_pos h]; rfl
theorem itoa_pos (l : Int) (h : ¬ l < 0) : Lib.itoa l = Lib.decDigits l.natAbs := by
  unfold Lib.itoa
  rw [if_neg h, show l.toNat = l.natAbs by omega]

theorem rd_of (s : ByteArray) (bs : List Bk) (hs : s.data.toList = txt bs) (k : Nat) (hk : k < bs.length) (p : Nat) (hp : p = (txt (bs.take k)).length) (hok : (bs[k]).Ok) :
    ∃ P1 P N u, Rd s k p bs[k].1 bs[k].2 P1 P N u (txt (bs.take (k + 1))).length := by
  have hat := text_at s bs hs k hk p hp
  have hnext := txt_next bs k hk
  have hlen : (txt (bs.take (k + 1))).length = p + ((sep k).length + (entry bs[k]).length) := by rw [hnext]; simp [hp]
  have hen := entry_length bs[k] hok
  have hil := itoa_len bs[k].1
  have hS := hok.1
  have hLa := hok.2.1
  have hLb := hok.2.2
  generalize hLL : bs[k].1 = L at *
  generalize hSS : bs[k].2 = S at *
  have he : entry bs[k] = Lib.itoa L ++ ([32] ++ (sha ++ Lib.Hx.encode S)) := by rw [← hLL, ← hSS]; rfl
  rw [he] at hat
  -- the digits' place
  obtain ⟨P, hP, hdig, hneg, hpos⟩ : ∃ P, P = p + (sep k).length + (if L < 0 then 1 else 0) ∧ At s P (Lib.decDigits L.natAbs ++ ([32] ++ (sha ++ Lib.Hx.encode S))) ∧
      (L < 0 → ∃ h : p + (sep k).length < s.size, s[p + (sep k).length] = 45) ∧ True := by
    have h2 := hat.right (p + (sep k).length) rfl
    by_cases hL : L < 0
    · rw [itoa_neg L hL, List.append_assoc] at h2
      refine ⟨_, rfl, ?_, fun _ => h2.byte, trivial⟩
      rw [if_pos hL]
      exact h2.right _ rfl
    · rw [itoa_pos L hL] at h2
      refine ⟨_, rfl, ?_, fun h => absurd h hL, trivial⟩
      rw [if_neg hL]
      exact h2
  have hN := Lib.decDigits_length L.natAbs
  have hb := hdig.right (P + Lib.nDigits L.natAbs) (by rw [hN])
  have hsh := hb.right (P + Lib.nDigits L.natAbs + 1) rfl
  have hhx := hsh.right (P + Lib.nDigits L.natAbs + 8) rfl
  have hel := Lib.Hx.encode_length S
  have hN0 := Lib.nDigits_pos L.natAbs
  have hdd : ∀ j, j < Lib.nDigits L.natAbs → ∃ (h : P + j < s.size), s[P + j].toNat = 48 + L.natAbs / 10 ^ (Lib.nDigits L.natAbs - 1 - j) % 10 := fun j hj => by
    obtain ⟨h1, h2⟩ := hdig.left.get j (by rw [hN]; exact hj)
    exact ⟨h1, by rw [h2, dec_get]⟩
  refine ⟨p + (sep k).length, P, Lib.nDigits L.natAbs, L.natAbs, ?_⟩
  constructor
  · intro h; subst h; rfl
  · intro h
    have e : sep k = [44, 32] := if_neg (by omega)
    rw [e] at hat ⊢
    obtain ⟨h0, h0'⟩ := hat.left.get 0 (by simp)
    obtain ⟨h1, h1'⟩ := hat.left.get 1 (by simp)
    exact ⟨rfl, h0, h1, h0', h1'⟩
  · rfl
  · intro h
    rw [if_pos h] at hP
    exact ⟨hP, hneg h⟩
  · intro h
    rw [if_neg h, Nat.add_zero] at hP
    refine ⟨hP, ?_⟩
    obtain ⟨h1, h2⟩ := hdd 0 hN0
    subst hP
    refine ⟨h1, fun e => ?_⟩
    rw [Nat.add_zero] at *
    simp only [Nat.add_zero] at h2
    rw [e] at h2
    have : (45 : UInt8).toNat = 45 := rfl
    omega
  · intro j hj
    obtain ⟨h1, h2⟩ := hdd j hj
    refine ⟨h1, _, ?_, h2, vl_step _ _ hj⟩
    have := Nat.mod_lt (L.natAbs / 10 ^ (Lib.nDigits L.natAbs - 1 - j)) (show 0 < 10 by omega)
    omega
  · exact vl_zero _
  · exact vl_all _
  · exact vl_le _
  · exact hN0
  · exact nd_le _ (by omega)
  · intro h
    obtain ⟨h1, h2⟩ := hdd 0 hN0
    have h3 := first_nz L.natAbs h
    refine ⟨h1, fun e => ?_⟩
    simp only [Nat.add_zero] at h2
    rw [e] at h2
    have : (48 : UInt8).toNat = 48 := rfl
    omega
  · exact hb.byte
  · exact hsh.left.ext
  · have := hhx.size
    rw [hel, hS] at this
    omega
  · intro j hj
    have hjS : j < S.length := by omega
    obtain ⟨h0, h0'⟩ := hhx.get (2 * j) (by rw [hel]; omega)
    obtain ⟨h1, h1'⟩ := hhx.get (2 * j + 1) (by rw [hel]; omega)
    exact ⟨S[j], h0, h1, by simp [hjS], by rw [h0', enc_hi S j hjS], by have := enc_lo S j hjS (by rw [hel]; omega); rw [← this, ← h1']; rfl⟩
  · rw [hlen, hen, hil, hP]
    clear hlen hen hil hP hdig hneg hpos hat hnext hb hsh hhx hel hdd he
    generalize (if L < 0 then 1 else 0) = z
    generalize (sep k).length = y
    generalize Lib.nDigits L.natAbs = x
    omega
end Go.Proofs.Qxb6630671aDoor
