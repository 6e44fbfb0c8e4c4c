/-
  The plain laws of the fold: no Go in sight.
-/
import Derived.KernelRfl
namespace Go.Proofs.Qxb6629319a

/-- What 'foldByte' gives. -/
def fd (c : Nat) : Nat := if 65 ≤ c ∧ c ≤ 94 then c + 32 else c
def fl (s : List UInt8) : List Nat := s.map fun c => fd c.toNat
def eqf (a b : List UInt8) : Bool := decide (fl a = fl b)

theorem eqf_iff {a b : List UInt8} : eqf a b = true ↔ fl a = fl b := by simp [eqf]
theorem eqf_refl (a : List UInt8) : eqf a a = true := by simp [eqf]
theorem eqf_symm (a b : List UInt8) : eqf a b = eqf b a := by
  unfold eqf
  rw [Bool.eq_iff_iff]; simp only [decide_eq_true_eq]; exact ⟨Eq.symm, Eq.symm⟩
theorem eqf_trans {a b c : List UInt8} (h : eqf a b = true) (h' : eqf b c = true) : eqf a c = true := by
  rw [eqf_iff] at *; rw [h, h']

theorem fl_length (a : List UInt8) : (fl a).length = a.length := by simp [fl]
theorem eqf_len {a b : List UInt8} (h : a.length ≠ b.length) : eqf a b = false := by
  unfold eqf; rw [decide_eq_false_iff_not]; intro e
  exact h (by rw [← fl_length a, ← fl_length b, e])

theorem eqf_of_all {a b : List UInt8} (h : a.length = b.length) (hall : ∀ j (h1 : j < a.length) (h2 : j < b.length), fd a[j].toNat = fd b[j].toNat) : eqf a b = true := by
  rw [eqf_iff]
  apply List.ext_getElem
  · simp [fl, h]
  · intro i h1 h2
    simp only [fl, List.getElem_map]
    exact hall i (by simpa [fl] using h1) (by simpa [fl] using h2)

theorem eqf_of_one {a b : List UInt8} (j : Nat) (h1 : j < a.length) (h2 : j < b.length) (h : fd a[j].toNat ≠ fd b[j].toNat) : eqf a b = false := by
  unfold eqf; rw [decide_eq_false_iff_not]; intro e
  apply h
  have e1 : (fl a)[j]? = (fl b)[j]? := by rw [e]
  simp [fl, h1, h2] at e1
  exact e1

theorem eqf_cut (a b : List UInt8) (k : Nat) (ha : k ≤ a.length) (hb : k ≤ b.length) :
    eqf a b = (eqf (a.take k) (b.take k) && eqf (a.drop k) (b.drop k)) := by
  rw [Bool.eq_iff_iff, Bool.and_eq_true, eqf_iff, eqf_iff, eqf_iff]
  have e : ∀ l : List UInt8, fl l = fl (l.take k) ++ fl (l.drop k) := by
    intro l; simp only [fl]; rw [← List.map_append, List.take_append_drop]
  rw [e a, e b]
  constructor
  · intro h
    exact List.append_inj h (by simp [fl, Nat.min_eq_left ha, Nat.min_eq_left hb])
  · rintro ⟨h, h'⟩; rw [h, h']

theorem fd_flip (c : Nat) (h : c < 256) : fd (c ^^^ 1) ≠ fd c := by
  revert c; decide +kernel

theorem eqf_flip (a : List UInt8) (k : Nat) (h : k < a.length) (c : UInt8) (hc : c.toNat = a[k].toNat ^^^ 1) : eqf a (a.set k c) = false := by
  refine eqf_of_one k h (by simpa using h) ?_
  rw [List.getElem_set_self, hc]
  exact (fd_flip _ (UInt8.toNat_lt _)).symm

/-- The upper form of one byte, of a list. -/
def up (c : Nat) : Nat := if 97 ≤ c ∧ c ≤ 126 then c - 32 else c
theorem fd_up (c : Nat) : fd (up c) = fd c := by unfold fd up; split <;> split <;> (try split) <;> omega
theorem up_lt (c : Nat) (h : c < 256) : up c < 256 := by unfold up; split <;> omega
def upl (s : List UInt8) : List UInt8 := s.map fun c => UInt8.ofNat (up c.toNat)
theorem upl_length (s : List UInt8) : (upl s).length = s.length := by simp [upl]
theorem fl_upl (s : List UInt8) : fl (upl s) = fl s := by
  simp only [fl, upl, List.map_map]
  apply List.map_congr_left
  intro c _
  simp only [Function.comp]
  rw [UInt8.toNat_ofNat', Nat.mod_eq_of_lt (up_lt c.toNat (UInt8.toNat_lt c))]
  exact fd_up _
theorem eqf_upl (a : List UInt8) : eqf a (upl a) = true := by rw [eqf_iff, fl_upl]
theorem eqf_upl' (a : List UInt8) : eqf (upl a) a = true := by rw [eqf_iff, fl_upl]
theorem eqf_upl2 (a b : List UInt8) : eqf (upl a) (upl b) = eqf a b := by unfold eqf; rw [fl_upl, fl_upl]
end Go.Proofs.Qxb6629319a
