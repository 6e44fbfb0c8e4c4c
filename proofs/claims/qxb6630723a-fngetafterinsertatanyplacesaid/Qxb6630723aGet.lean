/-
  The walk of '(*Node).Get'.
-/
import Derived.Test.Qxb6630723aRows
import Derived.WalkKit
import Derived.WalkSpells
import Derived.Deep.LoopGhost
import Derived.Deep.Light
namespace Go.Proofs.Qxb6630723a
open Go.RowKit
set_option linter.unusedVariables false

/-- The place of the first key that is 'key', from place a on; as a pointer. -/
def found (p : Nat → Value) (key : ByteArray) : List ByteArray → Nat → Value
  | [], _ => .pointer none
  | k :: t, a => if k = key then p a else found p key t (a + 1)

theorem found_skip (p : Nat → Value) (key : ByteArray) : ∀ (ks : List ByteArray) (a k : Nat) (hk : k ≤ ks.length), (∀ j (h : j < ks.length), j < k → ks[j] ≠ key) → found p key ks a = found p key (ks.drop k) (a + k)
  | ks, a, 0, _, _ => by simp
  | [], a, k + 1, hk, _ => by simp at hk
  | c :: t, a, k + 1, hk, h => by
    have h0 : c ≠ key := h 0 (by simp) (by omega)
    rw [found, if_neg h0, found_skip p key t (a + 1) k (by simpa using hk) (fun j hj hjk => by have := h (j + 1) (by simpa using hj) (by omega); simpa using this)]
    rw [List.drop_succ_cons, show a + 1 + k = a + (k + 1) by omega]

theorem found_at (p : Nat → Value) (key : ByteArray) (ks : List ByteArray) (k : Nat) (hk : k < ks.length) (h : ∀ j (h : j < ks.length), j < k → ks[j] ≠ key) (he : ks[k] = key) : found p key ks 0 = p k := by
  rw [found_skip p key ks 0 k (by omega) h, List.drop_eq_getElem_cons hk, found, if_pos he, Nat.zero_add]
theorem found_no (p : Nat → Value) (key : ByteArray) (ks : List ByteArray) (h : ∀ j (h : j < ks.length), ks[j] ≠ key) : found p key ks 0 = .pointer none := by
  rw [found_skip p key ks 0 ks.length (Nat.le_refl _) (fun j hj _ => h j hj)]
  simp [found]

theorem toList_inj {a b : ByteArray} (h : a.toList = b.toList) : a = b := by
  rw [Go.ByteArray.toList_eq, Go.ByteArray.toList_eq] at h
  exact Go.WideShapes.bytes_inj h

theorem ret_val {a b : Value} (h : a = b) : Ending.returned a = .returned b := by rw [h]

set_option maxHeartbeats 400000 in
theorem get_any (w : World) (N M off cap : Nat) (ks : List ByteArray) (q : Nat → Addr) (key : ByteArray) (hN : w.cell? ⟨N, 2, none⟩ = some (.slice (some ⟨M, off, none⟩) ks.length cap)) (hks : 0 < ks.length) (hcap : ks.length ≤ cap) (hl : ks.length ≤ 1048576)
    (hcell : ∀ j (h : j < ks.length), w.cell? ⟨M, off + j * 2, none⟩ = some (.string ks[j]) ∧ w.cell? ⟨M, off + j * 2 + 1, none⟩ = some (.pointer (some (q j)))) :
    Calls Try.prog 6 #[.pointer (some ⟨N, 0, none⟩), .string key] w fun e w' => e = .returned (found (fun j => .pointer (some (q j))) key ks 0) ∧ Below w.heap.size w w' := by
  have Hcell : Hid (∀ j (h : j < ks.length), w.cell? ⟨M, off + j * 2, none⟩ = some (.string ks[j]) ∧ w.cell? ⟨M, off + j * 2 + 1, none⟩ = some (.pointer (some (q j)))) := hcell
  have hM : M < w.heap.size := World.block_lt_of_cell? w ⟨M, off + 0 * 2, none⟩ (hcell 0 hks).1
  clear hcell
  go_enter Try.func6, Try.ntmps6
  go_wp2
  go_loopg [12] ks.length (fun g si wr => ∃ k : Nat, k ≤ ks.length ∧ g = ks.length - k ∧ si = .int .i64 k ∧ Below w.heap.size w wr ∧ ∀ j (h : j < ks.length), j < k → ks[j] ≠ key)
  case atStart => exact ⟨0, Nat.zero_le _, rfl, rfl, Below.refl _ _, fun j _ h => by omega⟩
  case round =>
    obtain ⟨k, hk, rfl, rfl, hb, hall⟩ := hrel
    have Hall : Hid (∀ j (h : j < ks.length), j < k → ks[j] ≠ key) := hall
    clear hall
    by_cases hlt : k < ks.length
    · have c1 := (hb.cell (p := ⟨M, off + k * 2, none⟩) hM).trans (Hcell.out k hlt).1
      have c2 := (hb.cell (p := ⟨M, off + k * 2 + 1, none⟩) hM).trans (Hcell.out k hlt).2
      by_cases he : ks[k] = key
      · have t : (ks[k].toList == key.toList) = true := by rw [he]; simp
        have HF : Hid (found (fun j => .pointer (some (q j))) key ks 0 = .pointer (some (q k))) := found_at _ _ _ k hlt Hall.out he
        clear he
        go_wp2
        go_ret
        exact ⟨ret_val HF.out.symm, (hb.alloc hb.size _)⟩
      · have t : (ks[k].toList == key.toList) = false := by
          rw [beq_eq_false_iff_ne]; intro e; exact he (toList_inj e)
        have He : Hid (ks[k] ≠ key) := he
        clear he
        go_wp2
        go_roundg (ks.length - (k + 1))
        case measure => omega
        case rel =>
          refine ⟨k + 1, by omega, rfl, by go_num, (hb.alloc hb.size _), fun j hj hjk => ?_⟩
          by_cases e : j = k
          · subst e; exact He.out
          · exact Hall.out j hj (by omega)
    · go_wp2
      go_ret
      exact ⟨ret_val (found_no _ _ _ fun j hj => Hall.out j hj (by omega)).symm, hb⟩
end Go.Proofs.Qxb6630723a
