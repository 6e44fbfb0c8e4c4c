/-
  The walk of 'writeIndent'.
-/
import Derived.Test.Qxb6630530aEmit
import Derived.Test.Qxb6630530aPlain
import Derived.Deep.LoopGhost
import Derived.Deep.Light
namespace Go.Proofs.Qxb6630530a
open Go.RowKit
set_option linter.unusedVariables false

/-- What 'writeIndent' leaves. -/
def indF (pad : Nat) (inn : Bool) (l : List UInt8) (col : Int) : List UInt8 := if inn then indL pad l col else l ++ 10 :: List.replicate pad 32

theorem pad_step (l0 : List UInt8) (k : Nat) : l0 ++ List.replicate k 32 ++ [32] = l0 ++ List.replicate (k + 1) (32 : UInt8) := by
  rw [List.append_assoc, ← List.replicate_succ']

set_option maxHeartbeats 1000000 in
theorem writeIndent_pos {S : Nat → Prop} {W w : World} {E : Nat} {l : List UInt8} {col  : Int} {ws inn : Bool} (pad : Nat) (h : Em S W w E l col (pad : Int) ws inn) (hpad : pad ≤ 65536)
    (hl : l.length ≤ 17592186044416) (h1 : -10000000000 ≤ col) (h2 : col ≤ 10000000000) :
    Calls Try.prog 19 #[.pointer (some ⟨E, 0, none⟩)] w fun e w' => e = .returned (.tuple #[]) ∧ Em S W w' E (indF pad inn l col) (pad : Int) (pad : Int) true true := by
  obtain ⟨v, hkp, hnE, hbox, hB⟩ := h
  have hE : Em S W w E l col (pad : Int) ws inn := ⟨v, hkp, hnE, hbox, hB⟩
  have c1 := hbox.c1
  have c2 := hbox.c2
  have c4 := hbox.c4
  have HF : ∃ F, Hid (indF pad inn l col = F) := ⟨_, rfl⟩
  obtain ⟨F, HF⟩ := HF
  rw [HF.out]
  clear hbox
  have key : inn = false ∨ (inn = true ∧ col ≤ (pad : Int)) ∨ (inn = true ∧ ¬ col ≤ (pad : Int)) := by
    cases inn
    · exact .inl rfl
    · by_cases hc : col ≤ (pad : Int)
      · exact .inr (.inl ⟨rfl, hc⟩)
      · exact .inr (.inr ⟨rfl, hc⟩)
  rcases key with rfl | ⟨rfl, hc⟩ | ⟨rfl, hc⟩
  case' inl =>
    have HF2 : Hid (l ++ [10] ++ List.replicate ((pad : Int) - 0).toNat 32 = F) := by rw [← HF.out]; simp [indF, Hid]
    go_enter Try.func19, Try.ntmps19
    go_wp2_with fail
    refine (newline_any hE (by omega)).mono ?_
    rintro e w1 ⟨rfl, hE1⟩
    have hl1 : (l ++ [10]).length ≤ 17592186044417 := by simp; omega
    have q1 : (-10000000000 : Int) ≤ 0 := by omega
    have q2 : (0 : Int) ≤ (pad : Int) := by omega
    obtain ⟨l0, col0, hz, hE1, HF3, hl1⟩ : ∃ l0 col0, (col0 : Int) = 0 ∧ Em S W w1 E l0 col0 (pad : Int) ws _ ∧ Hid (l0 ++ List.replicate ((pad : Int) - col0).toNat 32 = F) ∧ l0.length ≤ 17592186044417 := ⟨_, 0, rfl, hE1, HF2, hl1⟩
    replace q1 : (-10000000000 : Int) ≤ col0 := by omega
    replace q2 : col0 ≤ (pad : Int) := by omega
    clear hz HF2
  case' inr.inl =>
    have HF3 : Hid (l ++ List.replicate ((pad : Int) - col).toNat 32 = F) := by rw [← HF.out]; simp [indF, indL, hc, Hid]
    go_enter Try.func19, Try.ntmps19
    go_wp2_with fail
    have hE1 := hE
    have hl1 : l.length ≤ 17592186044417 := by omega
    have q1 : (-10000000000 : Int) ≤ col := h1
    have q2 : col ≤ (pad : Int) := hc
    generalize l = l0 at hE1 HF3 hl1
    generalize col = col0 at hE1 HF3 q1 q2
  case' inr.inr =>
    have HF2 : Hid (l ++ [10] ++ List.replicate ((pad : Int) - 0).toNat 32 = F) := by rw [← HF.out]; simp [indF, indL, hc, Hid]
    go_enter Try.func19, Try.ntmps19
    go_wp2_with fail
    refine (newline_any hE (by omega)).mono ?_
    rintro e w1 ⟨rfl, hE1⟩
    have hl1 : (l ++ [10]).length ≤ 17592186044417 := by simp; omega
    have q1 : (-10000000000 : Int) ≤ 0 := by omega
    have q2 : (0 : Int) ≤ (pad : Int) := by omega
    obtain ⟨l0, col0, hz, hE1, HF3, hl1⟩ : ∃ l0 col0, (col0 : Int) = 0 ∧ Em S W w1 E l0 col0 (pad : Int) ws _ ∧ Hid (l0 ++ List.replicate ((pad : Int) - col0).toNat 32 = F) ∧ l0.length ≤ 17592186044417 := ⟨_, 0, rfl, hE1, HF2, hl1⟩
    replace q1 : (-10000000000 : Int) ≤ col0 := by omega
    replace q2 : col0 ≤ (pad : Int) := by omega
    clear hz HF2
  all_goals
    obtain ⟨inn0, hE1⟩ : ∃ inn0, Em S W _ E l0 col0 (pad : Int) ws inn0 := ⟨_, hE1⟩
    clear hE c1 c2 c4 hkp hB HF h1 h2 hl
    try go_wp2_with fail
    go_loopg [] ((pad : Int) - col0).toNat (fun g wr => ∃ k : Nat, g = ((pad : Int) - col0).toNat - k ∧ col0 + k ≤ (pad : Int) ∧ Em S W wr E (l0 ++ List.replicate k 32) (col0 + k) (pad : Int) ws (inn0))
    case atStart => exact ⟨0, rfl, by omega, by simpa using hE1⟩
    case round =>
      obtain ⟨k, rfl, hk, hEk⟩ := hrel
      have hEk2 := hEk
      obtain ⟨vk, kp, nE, bx, bB⟩ := hEk
      have c1 := bx.c1
      have hlen : (l0 ++ List.replicate k (32 : UInt8)).length ≤ 35184372088832 := by simp; omega
      by_cases hlt : col0 + k < (pad : Int)
      · clear kp bx bB
        go_wp2_with fail
        refine (put_any hEk2 32 32 rfl hlen (by omega) (by omega)).mono ?_
        rintro e w2 ⟨rfl, hE2⟩
        go_wp2
        go_roundg (((pad : Int) - col0).toNat - (k + 1))
        case measure => omega
        case rel =>
          rw [pad_step] at hE2
          exact ⟨k + 1, rfl, by omega, by rw [show col0 + ((k + 1 : Nat) : Int) = col0 + k + 1 by omega]; exact hE2⟩
      · have hkk : Hid (l0 ++ List.replicate k 32 = F) := by rw [← HF3.out]; unfold Hid; congr 2; omega
        have hcc : Hid (col0 + k = (pad : Int)) := by unfold Hid; omega
        have c3 := bx.c3
        have c4 := bx.c4
        have f3 := bx.fz 3
        have f4 := bx.fz 4
        go_wp2
        go_end0
        rw [hkk.out] at bB
        rw [hcc.out] at bx
        exact ⟨rfl, vk, (kp.setCell nE _).setCell nE _, nE, (bx.s3 _).s4 _, (bB.setCell (.inr rfl) _).setCell (.inr rfl) _⟩

set_option maxHeartbeats 1000000 in
theorem writeIndent_neg {S : Nat → Prop} {W w : World} {E : Nat} {l : List UInt8} {col ind : Int} {ws inn : Bool}  (h : Em S W w E l col ind ws inn) (hneg : ind < 0)
    (hl : l.length ≤ 17592186044416) (h1 : -10000000000 ≤ col) (h2 : col ≤ 10000000000) :
    Calls Try.prog 19 #[.pointer (some ⟨E, 0, none⟩)] w fun e w' => e = .returned (.tuple #[]) ∧ Em S W w' E (indF 0 inn l col) (0 : Int) ind true true := by
  obtain ⟨v, hkp, hnE, hbox, hB⟩ := h
  have hE : Em S W w E l col ind ws inn := ⟨v, hkp, hnE, hbox, hB⟩
  have c1 := hbox.c1
  have c2 := hbox.c2
  have c4 := hbox.c4
  have HF : ∃ F, Hid (indF 0 inn l col = F) := ⟨_, rfl⟩
  obtain ⟨F, HF⟩ := HF
  rw [HF.out]
  clear hbox
  have key : inn = false ∨ (inn = true ∧ col ≤ (0 : Int)) ∨ (inn = true ∧ ¬ col ≤ (0 : Int)) := by
    cases inn
    · exact .inl rfl
    · by_cases hc : col ≤ (0 : Int)
      · exact .inr (.inl ⟨rfl, hc⟩)
      · exact .inr (.inr ⟨rfl, hc⟩)
  rcases key with rfl | ⟨rfl, hc⟩ | ⟨rfl, hc⟩
  case' inl =>
    have HF2 : Hid (l ++ [10] ++ List.replicate ((0 : Int) - 0).toNat 32 = F) := by rw [← HF.out]; simp [indF, Hid]
    go_enter Try.func19, Try.ntmps19
    go_wp2_with fail
    refine (newline_any hE (by omega)).mono ?_
    rintro e w1 ⟨rfl, hE1⟩
    have hl1 : (l ++ [10]).length ≤ 17592186044417 := by simp; omega
    have q1 : (-10000000000 : Int) ≤ 0 := by omega
    have q2 : (0 : Int) ≤ (0 : Int) := by omega
    obtain ⟨l0, col0, hz, hE1, HF3, hl1⟩ : ∃ l0 col0, (col0 : Int) = 0 ∧ Em S W w1 E l0 col0 ind ws _ ∧ Hid (l0 ++ List.replicate ((0 : Int) - col0).toNat 32 = F) ∧ l0.length ≤ 17592186044417 := ⟨_, 0, rfl, hE1, HF2, hl1⟩
    replace q1 : (-10000000000 : Int) ≤ col0 := by omega
    replace q2 : col0 ≤ (0 : Int) := by omega
    clear hz HF2
  case' inr.inl =>
    have HF3 : Hid (l ++ List.replicate ((0 : Int) - col).toNat 32 = F) := by rw [← HF.out]; simp [indF, indL, hc, Hid]
    go_enter Try.func19, Try.ntmps19
    go_wp2_with fail
    have hE1 := hE
    have hl1 : l.length ≤ 17592186044417 := by omega
    have q1 : (-10000000000 : Int) ≤ col := h1
    have q2 : col ≤ (0 : Int) := hc
    generalize l = l0 at hE1 HF3 hl1
    generalize col = col0 at hE1 HF3 q1 q2
  case' inr.inr =>
    have HF2 : Hid (l ++ [10] ++ List.replicate ((0 : Int) - 0).toNat 32 = F) := by rw [← HF.out]; simp [indF, indL, hc, Hid]
    go_enter Try.func19, Try.ntmps19
    go_wp2_with fail
    refine (newline_any hE (by omega)).mono ?_
    rintro e w1 ⟨rfl, hE1⟩
    have hl1 : (l ++ [10]).length ≤ 17592186044417 := by simp; omega
    have q1 : (-10000000000 : Int) ≤ 0 := by omega
    have q2 : (0 : Int) ≤ (0 : Int) := by omega
    obtain ⟨l0, col0, hz, hE1, HF3, hl1⟩ : ∃ l0 col0, (col0 : Int) = 0 ∧ Em S W w1 E l0 col0 ind ws _ ∧ Hid (l0 ++ List.replicate ((0 : Int) - col0).toNat 32 = F) ∧ l0.length ≤ 17592186044417 := ⟨_, 0, rfl, hE1, HF2, hl1⟩
    replace q1 : (-10000000000 : Int) ≤ col0 := by omega
    replace q2 : col0 ≤ (0 : Int) := by omega
    clear hz HF2
  all_goals
    obtain ⟨inn0, hE1⟩ : ∃ inn0, Em S W _ E l0 col0 ind ws inn0 := ⟨_, hE1⟩
    clear hE c1 c2 c4 hkp hB HF h1 h2 hl
    try go_wp2_with fail
    go_loopg [] ((0 : Int) - col0).toNat (fun g wr => ∃ k : Nat, g = ((0 : Int) - col0).toNat - k ∧ col0 + k ≤ (0 : Int) ∧ Em S W wr E (l0 ++ List.replicate k 32) (col0 + k) ind ws (inn0))
    case atStart => exact ⟨0, rfl, by omega, by simpa using hE1⟩
    case round =>
      obtain ⟨k, rfl, hk, hEk⟩ := hrel
      have hEk2 := hEk
      obtain ⟨vk, kp, nE, bx, bB⟩ := hEk
      have c1 := bx.c1
      have hlen : (l0 ++ List.replicate k (32 : UInt8)).length ≤ 35184372088832 := by simp; omega
      by_cases hlt : col0 + k < (0 : Int)
      · clear kp bx bB
        go_wp2_with fail
        refine (put_any hEk2 32 32 rfl hlen (by omega) (by omega)).mono ?_
        rintro e w2 ⟨rfl, hE2⟩
        go_wp2
        go_roundg (((0 : Int) - col0).toNat - (k + 1))
        case measure => omega
        case rel =>
          rw [pad_step] at hE2
          exact ⟨k + 1, rfl, by omega, by rw [show col0 + ((k + 1 : Nat) : Int) = col0 + k + 1 by omega]; exact hE2⟩
      · have hkk : Hid (l0 ++ List.replicate k 32 = F) := by rw [← HF3.out]; unfold Hid; congr 2; omega
        have hcc : Hid (col0 + k = (0 : Int)) := by unfold Hid; omega
        have c3 := bx.c3
        have c4 := bx.c4
        have f3 := bx.fz 3
        have f4 := bx.fz 4
        go_wp2
        go_end0
        rw [hkk.out] at bB
        rw [hcc.out] at bx
        exact ⟨rfl, vk, (kp.setCell nE _).setCell nE _, nE, (bx.s3 _).s4 _, (bB.setCell (.inr rfl) _).setCell (.inr rfl) _⟩

theorem writeIndent_any {S : Nat → Prop} {W w : World} {E : Nat} {l : List UInt8} {col ind : Int} {ws inn : Bool} (h : Em S W w E l col ind ws inn) (pad : Nat) (hp : max ind 0 = (pad : Int)) (hpad : pad ≤ 65536)
    (hl : l.length ≤ 17592186044416) (h1 : -10000000000 ≤ col) (h2 : col ≤ 10000000000) :
    Calls Try.prog 19 #[.pointer (some ⟨E, 0, none⟩)] w fun e w' => e = .returned (.tuple #[]) ∧ Em S W w' E (indF pad inn l col) pad ind true true := by
  have hcs : ind = (pad : Int) ∨ (ind < 0 ∧ pad = 0) := by omega
  rcases hcs with rfl | ⟨hneg, rfl⟩
  · exact writeIndent_pos pad h hpad hl h1 h2
  · exact writeIndent_neg h hneg hl h1 h2
end Go.Proofs.Qxb6630530a
