/-
  The walks of the small functions that only read: widths, breaks.
-/
import Derived.Test.Qxb6630530aRows
import Derived.Test.Qxb6630530aPlain
import Derived.WalkKit
import Derived.WalkSpells
import Derived.Deep.Light
namespace Go.Proofs.Qxb6630530a
open Go.RowKit
set_option linter.unusedVariables false
set_option linter.unusedSimpArgs false

theorem ret_int {k : IntKind} {a b : Int} (h : a = b) : Ending.returned (.int k a) = .returned (.int k b) := by rw [h]
theorem ret_bool {a b : Bool} (h : a = b) : Ending.returned (.bool a) = .returned (.bool b) := by rw [h]

theorem bt_byte (s : ByteArray) (i : Nat) (h : i < s.size) : bt s.data.toList i = s[i].toNat := by
  rw [bt_lt (by simpa using h)]; rfl
theorem bt_far (s : ByteArray) (i : Nat) (h : s.size ≤ i) : bt s.data.toList i = 256 := bt_out (by simpa using h)

set_option maxRecDepth 10000 in
set_option maxHeartbeats 400000 in
theorem charWidth_any (b : Nat) (w : World) (h : b < 256) :
    Calls Try.prog 25 #[.int .u8 (b : Int)] w fun e w' => e = .returned (.int .i64 (cw b : Nat)) ∧ w' = w := by
  by_cases h1 : b < 128
  · go_enter Try.func25, Try.ntmps25
    go_wp2
    go_ret
    exact ⟨ret_int (by simp [cw, h1]), rfl⟩
  by_cases h2 : b < 224
  · go_enter Try.func25, Try.ntmps25
    go_wp2
    go_ret
    exact ⟨ret_int (by simp [cw, h1, h2]), rfl⟩
  by_cases h3 : b < 240
  · go_enter Try.func25, Try.ntmps25
    go_wp2
    go_ret
    exact ⟨ret_int (by simp [cw, h1, h2, h3]), rfl⟩
  · go_enter Try.func25, Try.ntmps25
    go_wp2
    go_ret
    exact ⟨ret_int (by simp [cw, h1, h2, h3]), rfl⟩

set_option maxRecDepth 10000 in
set_option maxHeartbeats 400000 in
theorem runeLen_any (b : Nat) (w : World) (h : b < 256) :
    Calls Try.prog 16 #[.int .u8 (b : Int)] w fun e w' => e = .returned (.int .i64 (cw b : Nat)) ∧ w' = w := by
  by_cases h1 : b < 128
  · go_enter Try.func16, Try.ntmps16
    go_wp2
    go_ret
    exact ⟨ret_int (by simp [cw, h1]), rfl⟩
  by_cases h2 : b < 224
  · go_enter Try.func16, Try.ntmps16
    go_wp2
    go_ret
    exact ⟨ret_int (by simp [cw, h1, h2]), rfl⟩
  by_cases h3 : b < 240
  · go_enter Try.func16, Try.ntmps16
    go_wp2
    go_ret
    exact ⟨ret_int (by simp [cw, h1, h2, h3]), rfl⟩
  · go_enter Try.func16, Try.ntmps16
    go_wp2
    go_ret
    exact ⟨ret_int (by simp [cw, h1, h2, h3]), rfl⟩

set_option maxHeartbeats 1000000 in
theorem breakLen_any (s : ByteArray) (j : Nat) (w : World) (hj : j < s.size) (hs : s.size ≤ 1048576) :
    Calls Try.prog 14 #[.string s, .int .i64 (j : Int)] w fun e w' => e = .returned (.int .i64 (brk s.data.toList j : Nat)) ∧ w' = w := by
  have E0 : Hid (bt s.data.toList j = s[j].toNat) := bt_byte s j hj
  by_cases h2 : j + 2 < s.size
  · have h1 : j + 1 < s.size := by omega
    have E1 : Hid (bt s.data.toList (j + 1) = s[j + 1].toNat) := bt_byte s (j + 1) h1
    have E2 : Hid (bt s.data.toList (j + 2) = s[j + 2].toNat) := bt_byte s (j + 2) h2
    go_enter Try.func14, Try.ntmps14
    go_wp2
    all_goals
      go_ret
      refine ⟨ret_int ?_, rfl⟩
      have e0 := E0.out
      have e1 := E1.out
      have e2 := E2.out
      go_light
      clear E0 E1 E2
      try simp only [beq_iff_eq, beq_eq_false_iff_ne, ne_eq] at *
      unfold brk
      (repeat' split) <;> omega
  by_cases h1 : j + 1 < s.size
  · have E1 : Hid (bt s.data.toList (j + 1) = s[j + 1].toNat) := bt_byte s (j + 1) h1
    have E2 : Hid (bt s.data.toList (j + 2) = 256) := bt_far s (j + 2) (by omega)
    go_enter Try.func14, Try.ntmps14
    go_wp2
    all_goals
      go_ret
      refine ⟨ret_int ?_, rfl⟩
      have e0 := E0.out
      have e1 := E1.out
      have e2 := E2.out
      go_light
      clear E0 E1 E2
      try simp only [beq_iff_eq, beq_eq_false_iff_ne, ne_eq] at *
      unfold brk
      (repeat' split) <;> omega
  · have E1 : Hid (bt s.data.toList (j + 1) = 256) := bt_far s (j + 1) (by omega)
    have E2 : Hid (bt s.data.toList (j + 2) = 256) := bt_far s (j + 2) (by omega)
    go_enter Try.func14, Try.ntmps14
    go_wp2
    all_goals
      go_ret
      refine ⟨ret_int ?_, rfl⟩
      have e0 := E0.out
      have e1 := E1.out
      have e2 := E2.out
      go_light
      clear E0 E1 E2
      try simp only [beq_iff_eq, beq_eq_false_iff_ne, ne_eq] at *
      unfold brk
      (repeat' split) <;> omega

end Go.Proofs.Qxb6630530a
