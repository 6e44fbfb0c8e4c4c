/-
  The walk of 'isBreak'.
-/
import Derived.Test.Qxb6630530aSmall
namespace Go.Proofs.Qxb6630530a
open Go.RowKit
set_option linter.unusedVariables false
set_option linter.unusedSimpArgs false

/-- 'isBreak' at the head of a character of a valid text. -/
theorem brkB_1 {s : List UInt8} {i : Nat} {r : Bool} (h : r = true ↔ brk s i ≠ 0) : r = decide (brk s i ≠ 0) := by
  rw [Bool.eq_iff_iff, h, decide_eq_true_eq]

set_option maxHeartbeats 1000000 in
theorem isBreak_any (s : ByteArray) (j : Nat) (w : World) (hj : j < s.size) (hs : s.size ≤ 1048576) (hc2 : bt s.data.toList j = 194 → j + 1 < s.size) (he2 : bt s.data.toList j = 226 → j + 2 < s.size) :
    Calls Try.prog 21 #[.string s, .int .i64 (j : Int)] w fun e w' => e = .returned (.bool (decide (brk s.data.toList j ≠ 0))) ∧ w' = w := by
  have E0 : Hid (bt s.data.toList j = s[j].toNat) := bt_byte s j hj
  rw [E0.out] at hc2 he2
  have Hc2 : Hid (s[j].toNat = 194 → j + 1 < s.size) := hc2
  have He2 : Hid (s[j].toNat = 226 → j + 2 < s.size) := he2
  clear hc2 he2
  by_cases h2 : j + 2 < s.size
  · have h1 : j + 1 < s.size := by omega
    have E1 : Hid (bt s.data.toList (j + 1) = s[j + 1].toNat) := bt_byte s (j + 1) h1
    have E2 : Hid (bt s.data.toList (j + 2) = s[j + 2].toNat) := bt_byte s (j + 2) h2
    go_enter Try.func21, Try.ntmps21
    go_wp2
    all_goals
      go_ret
      refine ⟨ret_bool (brkB_1 ?_), rfl⟩
      have e0 := E0.out
      have e1 := E1.out
      have e2 := E2.out
      go_light
      clear E0 E1 E2 Hc2 He2
      try simp only [beq_iff_eq, beq_eq_false_iff_ne, ne_eq, Bool.or_eq_true, Bool.and_eq_true, Bool.false_eq_true, true_iff, false_iff, Decidable.not_not] at *
      unfold brk
      (repeat' split) <;> omega
  by_cases h1 : j + 1 < s.size
  · have E1 : Hid (bt s.data.toList (j + 1) = s[j + 1].toNat) := bt_byte s (j + 1) h1
    have E2 : Hid (bt s.data.toList (j + 2) = 256) := bt_far s (j + 2) (by omega)
    have n2 : ((s[j].toNat : Int) == 226) = false := by
      rw [beq_eq_false_iff_ne]; intro e; exact h2 (He2.out (by omega))
    go_enter Try.func21, Try.ntmps21
    go_wp2
    all_goals
      go_ret
      refine ⟨ret_bool (brkB_1 ?_), rfl⟩
      have e0 := E0.out
      have e1 := E1.out
      have e2 := E2.out
      go_light
      clear E0 E1 E2 Hc2 He2
      try simp only [beq_iff_eq, beq_eq_false_iff_ne, ne_eq, Bool.or_eq_true, Bool.and_eq_true, Bool.false_eq_true, true_iff, false_iff, Decidable.not_not] at *
      unfold brk
      (repeat' split) <;> omega
  · have E1 : Hid (bt s.data.toList (j + 1) = 256) := bt_far s (j + 1) (by omega)
    have E2 : Hid (bt s.data.toList (j + 2) = 256) := bt_far s (j + 2) (by omega)
    have n1 : ((s[j].toNat : Int) == 194) = false := by
      rw [beq_eq_false_iff_ne]; intro e; exact h1 (Hc2.out (by omega))
    have n2 : ((s[j].toNat : Int) == 226) = false := by
      rw [beq_eq_false_iff_ne]; intro e; exact h2 (He2.out (by omega))
    go_enter Try.func21, Try.ntmps21
    go_wp2
    all_goals
      go_ret
      refine ⟨ret_bool (brkB_1 ?_), rfl⟩
      have e0 := E0.out
      have e1 := E1.out
      have e2 := E2.out
      go_light
      clear E0 E1 E2 Hc2 He2
      try simp only [beq_iff_eq, beq_eq_false_iff_ne, ne_eq, Bool.or_eq_true, Bool.and_eq_true, Bool.false_eq_true, true_iff, false_iff, Decidable.not_not] at *
      unfold brk
      (repeat' split) <;> omega
end Go.Proofs.Qxb6630530a
