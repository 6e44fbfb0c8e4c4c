/-
  The walk of 'FnEqualFoldUpperFormAndEquivalence'.
-/
import Derived.Test.Qxb6629319aUpper
namespace Go.Proofs.Qxb6629319a
open Go.RowKit
set_option linter.unusedVariables false

set_option maxHeartbeats 400000 in
theorem bytesB_any (a b c : ByteArray) (w : World) (ha : a.size ≤ maxLen) (hb : b.size ≤ maxLen) (hc : c.size ≤ maxLen) :
    Calls Try.prog 7 #[.string a, .string b, .string c] w fun e w' => ∃ r : Bool, e = .returned (.bool r) ∧ w' = w := by
  unfold maxLen at ha hb hc
  go_enter Try.func7, Try.ntmps7
  go_wp2
  all_goals (go_ret; exact ⟨_, rfl, rfl⟩)

/-- 'EqualFold' with its answer known; what is old stays. -/
theorem equal_at (r : Bool) (a b : ByteArray) (w : World) (ha : a.size ≤ 65536) (h : eqf a.data.toList b.data.toList = r) (B : Nat) :
    Calls Try.prog 6 #[.string a, .string b] w fun e w' => e = .returned (.bool r) ∧ Below B w w' := by
  subst h
  refine (equal_any a b w (by unfold maxLen; omega)).mono ?_
  rintro e w' ⟨rfl, n, rfl⟩
  exact ⟨rfl, rfl, rfl, rfl, Nat.le_refl _, fun _ _ => rfl⟩

theorem size_upl (a : ByteArray) : (⟨(upl a.data.toList).toArray⟩ : ByteArray).size = a.size := by
  show (upl a.data.toList).toArray.size = a.size
  simp [upl]

set_option maxHeartbeats 1000000 in
theorem walkB (a b c : ByteArray) (ha : a.size ≤ maxLen) (hb : b.size ≤ maxLen) (hc : c.size ≤ maxLen) (w : World) :
    Calls Try.prog 4 #[.string a, .string b, .string c] w fun e w' => e = .returned (.bool true) ∧ Below w.heap.size w w' := by
  go_enter Try.func4, Try.ntmps4
  go_wp2_with fail
  refine (bytesB_any _ _ _ _ ha hb hc).mono ?_
  rintro e w0 ⟨r, rfl, rfl⟩
  unfold maxLen at ha hb hc
  cases r
  · go_wp2
    go_ret
    exact ⟨rfl, Below.refl _ _⟩
  by_cases hA : 65536 < a.size
  · go_wp2
    go_ret
    exact ⟨rfl, Below.refl _ _⟩
  by_cases hB : 65536 < b.size
  · go_wp2
    go_ret
    exact ⟨rfl, Below.refl _ _⟩
  by_cases hC : 65536 < c.size
  · go_wp2
    go_ret
    exact ⟨rfl, Below.refl _ _⟩
  have A1 : Hid (a.size ≤ 65536) := Nat.le_of_not_lt hA
  have B1 : Hid (b.size ≤ 65536) := Nat.le_of_not_lt hB
  have U1 : Hid ((⟨(upl a.data.toList).toArray⟩ : ByteArray).size ≤ 65536) := by rw [size_upl]; exact A1.out
  go_wp2_with fail
  refine (upper_any a _ A1.out).mono ?_
  rintro e w1 ⟨rfl, b1⟩
  go_wp2_with fail
  refine (upper_any b _ B1.out).mono ?_
  rintro e w2 ⟨rfl, b2⟩
  replace b2 := b1.trans (b2.mono b1.size)
  clear b1
  go_wp2_with fail
  refine (equal_at true a _ _ A1.out (eqf_upl _) w0.heap.size).mono ?_
  rintro e w3 ⟨rfl, b3⟩
  replace b3 := b2.trans b3
  clear b2
  go_wp2_with fail
  refine (equal_at true _ a _ U1.out (eqf_upl' _) w0.heap.size).mono ?_
  rintro e w4 ⟨rfl, b4⟩
  replace b4 := b3.trans b4
  clear b3
  generalize hR : eqf a.data.toList b.data.toList = R
  have HR : Hid (eqf a.data.toList b.data.toList = R) := hR
  have HR2 : Hid (eqf b.data.toList a.data.toList = R) := by rw [eqf_symm]; exact hR
  have HR3 : Hid (eqf (upl a.data.toList) (upl b.data.toList) = R) := by rw [eqf_upl2]; exact hR
  clear hR
  generalize hS : eqf b.data.toList c.data.toList = S
  have HS : Hid (eqf b.data.toList c.data.toList = S) := hS
  clear hS
  go_wp2_with fail
  refine (equal_at R a b _ A1.out HR.out w0.heap.size).mono ?_
  rintro e w5 ⟨rfl, b5⟩
  replace b5 := b4.trans b5
  clear b4
  go_wp2_with fail
  refine (equal_at R b a _ B1.out HR2.out w0.heap.size).mono ?_
  rintro e w6 ⟨rfl, b6⟩
  replace b6 := b5.trans b6
  clear b5
  cases R
  · go_wp2_with fail
    refine (equal_at false _ _ _ U1.out HR3.out w0.heap.size).mono ?_
    rintro e w7 ⟨rfl, b7⟩
    replace b7 := b6.trans b7
    clear b6
    go_wp2_with fail
    go_ret
    exact ⟨rfl, b7⟩
  · go_wp2_with fail
    refine (equal_at true _ _ _ U1.out HR3.out w0.heap.size).mono ?_
    rintro e w7 ⟨rfl, b7⟩
    replace b7 := b6.trans b7
    clear b6
    go_wp2_with fail
    refine (equal_at S b c _ B1.out HS.out w0.heap.size).mono ?_
    rintro e w8 ⟨rfl, b8⟩
    replace b8 := b7.trans b8
    clear b7
    cases S
    · go_wp2_with fail
      go_ret
      exact ⟨rfl, b8⟩
    · go_wp2_with fail
      refine (equal_at true a c _ A1.out (eqf_trans HR.out HS.out) w0.heap.size).mono ?_
      rintro e w9 ⟨rfl, b9⟩
      replace b9 := b8.trans b9
      clear b8
      go_wp2_with fail
      go_ret
      exact ⟨rfl, b9⟩
end Go.Proofs.Qxb6629319a
