/-
  The walk of 'rfcUpperForm'.
-/
import Derived.Test.Qxb6629319aFold
import Derived.Deep.OwnRows
import Derived.Laws.IdiomStrings
namespace Go.Proofs.Qxb6629319a
open Go.RowKit

theorem info5 : (Try.prog.info? 5).map (fun i => (i.zero, i.size, i.bytes)) = some (some (.int .u8 0), 1, 1) := by kernel_rfl

/-- 'make([]byte, n)': a new row of zeros. -/
theorem make_bytes (n : Nat) (h : n ≤ 65536) (w : World) : ∃ w', (Instr.makeSlice 24 (.int .i64 (n : Int)) (.int .i64 (n : Int))).run Try.prog w = .ok (.slice (some ⟨w.heap.size, 0, none⟩) n n) w' ∧
    w'.rowIs w.heap.size 5 n (fun _ => .int .u8 0) ∧ Below w.heap.size w w' :=
  ⟨_, run_make_row' 24 5 (.int .u8 0) 1 Try.underlying24 info5 rfl .i64 .i64 n (by omega) (by omega) w, World.rowIs_made _ _ _ _, (Below.refl _ _).alloc (Nat.le_refl _) _⟩

/-- What the row holds behind k rounds. -/
def upRow (s : ByteArray) (k : Nat) (j : Nat) : Value := .int .u8 (if j < k then (up (s.data.toList.getD j 0).toNat : Int) else 0)

theorem byte_getD (s : ByteArray) (k : Nat) (h : k < s.size) : s.data.toList.getD k 0 = s[k] := by
  have h' : k < s.data.toList.length := by simpa using h
  simp only [List.getD, List.getElem?_eq_getElem h', Option.getD_some]
  rfl

theorem upRow_zero (s : ByteArray) (j : Nat) : Value.int .u8 0 = upRow s 0 j := by simp [upRow]
theorem upRow_succ (s : ByteArray) (k : Nat) (h : k < s.size) (j : Nat) : (if j = k then .int .u8 (up s[k].toNat : Int) else upRow s k j) = upRow s (k + 1) j := by
  unfold upRow
  have e : s.data.toList.getD k 0 = s[k] := byte_getD s k h
  by_cases hj : j = k
  · subst hj; rw [if_pos rfl, if_pos (by omega), e]
  · rw [if_neg hj]
    by_cases hlt : j < k
    · rw [if_pos hlt, if_pos (by omega)]
    · rw [if_neg hlt, if_neg (by omega)]

/-- 'string(bs)' at the end. -/
theorem conv_up (s : ByteArray) (w : World) (B : Nat) (h : w.rowIs B 5 s.size (upRow s s.size)) :
    (convert 24 9 (.slice (some ⟨B, 0, none⟩) s.size s.size)).run Try.prog w = .ok (.string ⟨(upl s.data.toList).toArray⟩) w := by
  have hb := run_convert_bytes_back (P := Try.prog) w 24 9 5 ⟨B, 0, none⟩ s.size (upl s.data.toList) Try.underlying24 Try.underlying5 Try.underlying9 (by
    intro j hj
    have hj' : j < s.size := by simpa [upl] using hj
    have e : (⟨B, 0, none⟩ : Addr).add j = ⟨B, j, none⟩ := by unfold Addr.add; split <;> simp_all
    rw [e, h.cell hj']
    unfold upRow
    rw [if_pos hj']
    simp only [upl, List.getElem_map]
    rw [UInt8.toNat_ofNat', Nat.mod_eq_of_lt (up_lt _ (UInt8.toNat_lt _)), byte_getD s j hj']
    rfl)
  rw [show (upl s.data.toList).length = s.size by simp [upl]] at hb
  exact hb

set_option maxHeartbeats 400000 in
theorem upper_any (s : ByteArray) (w : World) (hs : s.size ≤ 65536) :
    Calls Try.prog 8 #[.string s] w fun e w' => e = .returned (.string ⟨(upl s.data.toList).toArray⟩) ∧ Below w.heap.size w w' := by
  obtain ⟨w1, hmk, hrow, hbel⟩ := make_bytes s.size hs w
  have Hrow : Hid (w1.rowIs w.heap.size 5 s.size (fun _ => .int .u8 0)) := hrow
  clear hrow
  go_enter Try.func8, Try.ntmps8
  go_wp2
  go_loopw [4] (fun i wr => ∃ k : Nat, k ≤ s.size ∧ i = .int .i64 k ∧ wr.rowIs w.heap.size 5 s.size (upRow s k) ∧ Below w.heap.size w wr) (fun i _ => s.size - (intOf i).toNat)
  case atStart => exact ⟨0, Nat.zero_le _, rfl, Hrow.out.congr (fun j _ => upRow_zero s j), hbel⟩
  case round =>
    obtain ⟨k, hk, rfl, hrow, hb⟩ := hrel
    by_cases hlt : k < s.size
    · have hcell := hrow.cell hlt
      have hfro := hrow.frozen k
      have Hst : Hid (∀ v, v = (up s[k].toNat : Int) → (wr.setCell ⟨w.heap.size, k, none⟩ (.int .u8 v)).rowIs w.heap.size 5 s.size (upRow s (k + 1))) := fun v hv => by
        subst hv; exact (hrow.set k _).congr fun j _ => upRow_succ s k hlt j
      have Hb : Hid (∀ v, Below w.heap.size w (wr.setCell ⟨w.heap.size, k, none⟩ v)) := fun v => hb.setCell (Nat.le_refl _) v
      clear hrow hb
      by_cases c1 : 97 ≤ s[k].toNat
      · by_cases c2 : s[k].toNat ≤ 126
        · go_wp2
          go_roundw
          case rel => exact ⟨k + 1, by omega, by go_num, Hst.out _ (by simp only [up, c1, c2, and_self, if_true]; omega), Hb.out _⟩
          case measure => simp [intOf]; omega
        · go_wp2
          go_roundw
          case rel => exact ⟨k + 1, by omega, by go_num, Hst.out _ (by simp [up, c2]), Hb.out _⟩
          case measure => simp [intOf]; omega
      · go_wp2
        go_roundw
        case rel => exact ⟨k + 1, by omega, by go_num, Hst.out _ (by simp [up, c1]), Hb.out _⟩
        case measure => simp [intOf]; omega
    · obtain rfl : k = s.size := by omega
      have hcv := conv_up s wr w.heap.size hrow
      clear hrow
      go_wp2
      go_ret
      exact ⟨rfl, hb⟩
end Go.Proofs.Qxb6629319a
