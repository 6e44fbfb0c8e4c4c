/-
  The walk of 'zzValidUTF8': where it says true the text is made of whole characters.
-/
import Derived.Test.Qxb6630530aSmall
import Derived.Deep.LoopGhost
import Derived.Deep.DeepCutAuto
import Derived.Deep.CutBlock
namespace Go.Proofs.Qxb6630530a
open Go.RowKit
set_option linter.unusedVariables false
set_option linter.unusedSimpArgs false

def ValidPost (s : ByteArray) (w : World) (e : Ending) (w' : World) : Prop := ∃ r : Bool, e = .returned (.bool r) ∧ (r = true → V s.data.toList 0) ∧ w' = w

theorem vp_mk {s : ByteArray} {w : World} (r : Bool) (h : r = true → V s.data.toList 0) : ValidPost s w (.returned (.bool r)) w := ⟨r, rfl, h, rfl⟩

set_option maxRecDepth 10000 in
set_option maxHeartbeats 1000000 in
theorem valid_any (s : ByteArray) (w : World) (hs : s.size ≤ 1048576) :
    Calls Try.prog 6 #[.string s] w (ValidPost s w) := by
  go_enter Try.func6, Try.ntmps6
  go_wp2
  go_loopg [4] s.size (fun g si wx => w = wx ∧ ∃ i : Nat, i ≤ s.size ∧ g = s.size - i ∧ si = .int .i64 i ∧ (V s.data.toList i → V s.data.toList 0))
  case atStart => exact ⟨rfl, 0, Nat.zero_le _, rfl, rfl, id⟩
  case round =>
    obtain ⟨rfl, i, hi, rfl, rfl, hV⟩ := hrel
    have HV : Hid (V s.data.toList i → V s.data.toList 0) := hV
    clear hV
    by_cases hlt : i < s.size
    · have E0 : Hid (bt s.data.toList i = s[i].toNat) := bt_byte s i hlt
      by_cases ha : s[i].toNat < 128
      · go_wp2
        go_roundg (s.size - (i + 1))
        case measure => omega
        case rel => exact ⟨rfl, i + 1, by omega, rfl, by go_num, fun h => HV.out (V_ascii (by rw [E0.out]; exact ha) h)⟩
      · go_upto_block 2 with fail
        go_cut [5, 6, 7, 8] (fun s5 s6 s7 s8 wx => w = wx ∧ s5 = .int .u8 (s[i].toNat : Int) ∧ ∃ lo hi : Int, s6 = .int .i64 (cw s[i].toNat : Nat) ∧ s7 = .int .u8 lo ∧ s8 = .int .u8 hi ∧ 128 ≤ lo ∧ lo ≤ 255 ∧ 0 ≤ hi ∧ hi ≤ 191 ∧ 194 ≤ s[i].toNat)
        case first =>
          go_wp2
          all_goals first
            | (go_ret; exact vp_mk false (fun h => by cases h))
            | (go_meet
               refine ⟨rfl, ?_, _, _, ?_, rfl, rfl, ?_, ?_, ?_, ?_, ?_⟩
               all_goals go_light
               all_goals (try simp only [beq_iff_eq, beq_eq_false_iff_ne, ne_eq] at *)
               all_goals first
                 | omega
                 | rfl
                 | (simp only [cw]; (repeat' split) <;> first | rfl | omega)
                 | (congr 1; omega))
        case rest =>
          obtain ⟨rfl, rfl, lo, hi, rfl, rfl, rfl, h1, h2, h3, h4, h5⟩ := hcut
          have cp := cw_pos s[i].toNat
          have cl := cw_le s[i].toNat
          generalize hcw : cw s[i].toNat = W at *
          have HW : Hid (cw s[i].toNat = W) := hcw
          clear hcw
          by_cases hn : s.size - i < W
          · go_wp2
            go_ret
            exact vp_mk false (fun h => by cases h)
          · have h2W : 2 ≤ W := by rw [← HW.out]; unfold cw; rw [if_neg ha]; split <;> (try split) <;> omega
            have hi1 : i + 1 < s.size := by omega
            have E1 : Hid (bt s.data.toList (i + 1) = s[i + 1].toNat) := bt_byte s (i + 1) hi1
            by_cases c1 : (s[i + 1].toNat : Int) < lo
            · go_wp2
              go_ret
              exact vp_mk false (fun h => by cases h)
            by_cases c2 : hi < (s[i + 1].toNat : Int)
            · go_wp2
              go_ret
              exact vp_mk false (fun h => by cases h)
            go_wp2
            go_loopg [10] (W - 2) (fun g sk wx => w = wx ∧ ∃ k : Nat, 2 ≤ k ∧ k ≤ W ∧ g = W - k ∧ sk = .int .i64 k ∧ ∀ j, 1 ≤ j → j < k → 128 ≤ bt s.data.toList (i + j) ∧ bt s.data.toList (i + j) < 192)
            case atStart =>
              refine ⟨rfl, 2, Nat.le_refl _, h2W, rfl, rfl, fun j a b => ?_⟩
              obtain rfl : j = 1 := by omega
              rw [E1.out]; omega
            case round =>
              obtain ⟨rfl, k, hk2, hkW, rfl, rfl, hall⟩ := hrel
              have Hall : Hid (∀ j, 1 ≤ j → j < k → 128 ≤ bt s.data.toList (i + j) ∧ bt s.data.toList (i + j) < 192) := hall
              clear hall
              by_cases hkl : k < W
              · have hik : i + k < s.size := by omega
                have Ek : Hid (bt s.data.toList (i + k) = s[i + k].toNat) := bt_byte s (i + k) hik
                by_cases d1 : s[i + k].toNat < 128
                · go_wp2
                  go_ret
                  exact vp_mk false (fun h => by cases h)
                by_cases d2 : 191 < s[i + k].toNat
                · go_wp2
                  go_ret
                  exact vp_mk false (fun h => by cases h)
                go_wp2
                go_roundg (W - (k + 1))
                case measure => omega
                case rel =>
                  refine ⟨rfl, k + 1, by omega, by omega, rfl, by go_num, fun j a b => ?_⟩
                  by_cases e : j = k
                  · subst e; rw [Ek.out]; omega
                  · exact Hall.out j a (by omega)
              · obtain rfl : k = W := by omega
                go_wp2
                go_roundg (s.size - (i + k))
                case measure => omega
                case rel =>
                  refine ⟨rfl, i + k, by omega, rfl, by go_num, fun h => HV.out (V_char (.inr (by rw [E0.out]; omega)) ?_ ?_ ?_)⟩
                  · rw [E0.out, HW.out]; simp; omega
                  · rw [E0.out, HW.out]; exact Hall.out
                  · rw [E0.out, HW.out]; exact h
    · go_wp2
      go_ret
      exact vp_mk true fun _ => HV.out (V_end (by simp; omega))
end Go.Proofs.Qxb6630530a
