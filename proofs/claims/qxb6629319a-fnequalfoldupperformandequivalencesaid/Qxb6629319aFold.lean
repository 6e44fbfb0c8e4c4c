/-
  The walks of 'foldByte' and 'EqualFold'.
-/
import Derived.Test.Qxb6629319aRows
import Derived.Test.Qxb6629319aPlain
import Derived.WalkKit
import Derived.WalkSpells
import Derived.Deep.QuietTactic
import Derived.BigQuiet
namespace Go.Proofs.Qxb6629319a
open Go.RowKit

theorem ret_int {k : IntKind} {a b : Int} (h : a = b) : Ending.returned (.int k a) = .returned (.int k b) := by rw [h]
theorem ret_bool {a b : Bool} (h : a = b) : Ending.returned (.bool a) = .returned (.bool b) := by rw [h]

/-- The world has drawn some answers from the tape, and nothing else has turned. -/
def Drew (w w' : World) : Prop := ∃ n, w' = w.drewN n
theorem Drew.refl (w : World) : Drew w w := ⟨0, rfl⟩
theorem Drew.more {w w' : World} (h : Drew w w') (n : Nat) : Drew w (w'.drewN n) := by
  obtain ⟨m, rfl⟩ := h; exact ⟨m + n, by rw [World.drewN_drewN]⟩
theorem Drew.trans {a b c : World} (h : Drew a b) (h' : Drew b c) : Drew a c := by
  obtain ⟨n, rfl⟩ := h'; exact h.more n

set_option maxHeartbeats 400000 in
theorem fold_any (c : Nat) (w : World) (h : c < 256) :
    Calls Try.prog 9 #[.int .u8 (c : Int)] w fun e w' => e = .returned (.int .u8 (fd c : Nat)) ∧ w' = w := by
  by_cases h1 : 65 ≤ c
  · by_cases h2 : c ≤ 94
    · go_enter Try.func9, Try.ntmps9
      go_wp2
      go_ret
      exact ⟨ret_int (by simp only [fd, h1, h2, and_self, if_true]; omega), rfl⟩
    · go_enter Try.func9, Try.ntmps9
      go_wp2
      go_ret
      exact ⟨by simp [fd, h2], rfl⟩
  · go_enter Try.func9, Try.ntmps9
    go_wp2
    go_ret
    exact ⟨by simp [fd, h1], rfl⟩

set_option maxHeartbeats 400000 in
theorem equal_any (a b : ByteArray) (w : World) (ha : a.size ≤ maxLen) :
    Calls Try.prog 6 #[.string a, .string b] w fun e w' => e = .returned (.bool (eqf a.data.toList b.data.toList)) ∧ Drew w w' := by
  unfold maxLen at ha
  by_cases hsz : a.size = b.size
  · have hb : ((a.size : Int) != (b.size : Int)) = false := by simp [hsz]
    have Hsz : Hid (a.size = b.size) := hsz
    clear hsz
    go_enter Try.func6, Try.ntmps6
    go_wp2
    go_loopw [5] (fun i w' => ∃ k : Nat, k ≤ a.size ∧ i = .int .i64 k ∧ Drew w w' ∧ ∀ j (h1 : j < a.size) (h2 : j < b.size), j < k → fd a[j].toNat = fd b[j].toNat) (fun i _ => a.size - (intOf i).toNat)
    case atStart => exact ⟨0, Nat.zero_le _, rfl, Drew.refl _, fun j _ _ h => absurd h (Nat.not_lt_zero _)⟩
    case round =>
      obtain ⟨k, hk, rfl, hdr, hall⟩ := hrel
      have Hall : Hid (∀ j (h1 : j < a.size) (h2 : j < b.size), j < k → fd a[j].toNat = fd b[j].toNat) := hall
      clear hall
      by_cases hlt : k < a.size
      · have hlt2 : k < b.size := by rw [← Hsz.out]; exact hlt
        go_wp2_with fail
        go_quiet ((go_at_call 9; exact Calls.quiet_of_same (fold_any _ _ (UInt8.toNat_lt _))))
        by_cases hne : fd a[k].toNat = fd b[k].toNat
        · have hne' : (((fd a[k].toNat : Nat) : Int) != ((fd b[k].toNat : Nat) : Int)) = false := by simp [hne]
          have Hne : Hid (fd a[k].toNat = fd b[k].toNat) := hne
          clear hne
          go_wp2
          go_roundw
          case rel =>
            refine ⟨k + 1, by omega, by go_num, hdr.more _, fun j h1 h2 hj => ?_⟩
            by_cases e : j = k
            · subst e; exact Hne.out
            · exact Hall.out j h1 h2 (by omega)
          case measure => simp [intOf]; omega
        · have hne' : (((fd a[k].toNat : Nat) : Int) != ((fd b[k].toNat : Nat) : Int)) = true := by simp; omega
          go_wp2
          go_ret
          refine ⟨ret_bool (eqf_of_one k (by simpa using hlt) (by simpa using hlt2) ?_).symm, hdr.more _⟩
          exact hne
      · go_wp2
        go_ret
        refine ⟨ret_bool (eqf_of_all (by simpa using Hsz.out) fun j h1 h2 => ?_).symm, hdr⟩
        exact Hall.out j (by simpa using h1) (by simpa using h2) (Nat.lt_of_lt_of_le (by simpa using h1) (Nat.le_of_not_lt hlt))
  · have hb : ((a.size : Int) != (b.size : Int)) = true := by simp; omega
    go_enter Try.func6, Try.ntmps6
    go_wp2
    go_ret
    exact ⟨ret_bool (eqf_len (by simpa using hsz)).symm, Drew.refl _⟩
end Go.Proofs.Qxb6629319a
