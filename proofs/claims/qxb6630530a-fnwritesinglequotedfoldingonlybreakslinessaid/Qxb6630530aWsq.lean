/-
  The walk of 'writeSingleQuoted'.
-/
import Derived.Test.Qxb6630530aRel
import Derived.Test.Qxb6630530aBrk
import Derived.Test.Qxb6630530aChar
import Derived.Test.Qxb6630530aIndent
import Derived.Test.Qxb6630530aInd2
namespace Go.Proofs.Qxb6630530a
open Go.RowKit
set_option linter.unusedVariables false
set_option linter.unusedSimpArgs false

set_option maxRecDepth 10000 in
set_option maxHeartbeats 2000000 in
theorem wsq_any {S : Nat → Prop} {W w : World} {E : Nat} {l : List UInt8} {col ind : Int} {ws inn : Bool} (h : Em S W w E l col ind ws inn) (s : ByteArray) (fold : Bool) (pad : Nat) (hp : max ind 0 = (pad : Int)) (hpad : pad ≤ 65536)
    (hs : s.size ≤ 1048576) (hV : V s.data.toList 0) (hl : l.length ≤ 2097152) (h1 : -1073741824 ≤ col) (h2 : col ≤ 1073741824) :
    Calls Try.prog 17 #[.pointer (some ⟨E, 0, none⟩), .string s, .bool fold] w fun e w' => e = .returned (.tuple #[]) ∧
      Em S W w' E (scalar s.data.toList pad fold ws l col).1 (scalar s.data.toList pad fold ws l col).2 ind false false := by
  have Hp : Hid (max ind 0 = (pad : Int)) := hp
  have HV : Hid (V s.data.toList 0) := hV
  have HL : Hid (s.data.toList.length = s.size) := by simp [Hid]
  clear hp hV
  obtain ⟨R, HR⟩ : ∃ R, Hid (scalar s.data.toList pad fold ws l col = R) := ⟨_, rfl⟩
  rw [HR.out]
  have hws : ws = true ∨ ws = false := by cases ws <;> simp
  rcases hws with rfl | rfl
  case' inl =>
    go_enter Try.func17, Try.ntmps17
    go_wp2_with fail
    refine (indicator_no (spaced := true) h (.inr rfl) (by omega) (by omega) (by omega)).mono ?_
    rintro e w1 ⟨rfl, hE⟩
    obtain ⟨l1, c1, hE, HX, q1, q2, q3⟩ : ∃ l1 c1, Em S W w1 E l1 c1 ind false false ∧ Hid (((lay s.data.toList pad fold s.data.toList.length 0 false false l1 c1).1 ++ [39], (lay s.data.toList pad fold s.data.toList.length 0 false false l1 c1).2 + 1) = R) ∧ l1.length ≤ 2097154 ∧ -1073741824 ≤ c1 ∧ c1 ≤ 1073741826 :=
      ⟨_, _, hE, HR, by simp; omega, by omega, by omega⟩
  case' inr =>
    go_enter Try.func17, Try.ntmps17
    go_wp2_with fail
    refine (indicator_sp h (by omega) (by omega) (by omega)).mono ?_
    rintro e w1 ⟨rfl, hE⟩
    obtain ⟨l1, c1, hE, HX, q1, q2, q3⟩ : ∃ l1 c1, Em S W w1 E l1 c1 ind false false ∧ Hid (((lay s.data.toList pad fold s.data.toList.length 0 false false l1 c1).1 ++ [39], (lay s.data.toList pad fold s.data.toList.length 0 false false l1 c1).2 + 1) = R) ∧ l1.length ≤ 2097154 ∧ -1073741824 ≤ c1 ∧ c1 ≤ 1073741826 :=
      ⟨_, _, hE, HR, by simp; omega, by omega, by omega⟩
  all_goals
    clear h HR hl h1 h2
    obtain ⟨R1, HR1⟩ : ∃ R1, Hid (lay s.data.toList pad fold s.data.toList.length 0 false false l1 c1 = R1) := ⟨_, rfl⟩
    have HX2 : Hid ((R1.1 ++ [39], R1.2 + 1) = R) := by rw [← HR1.out]; exact HX
    have HW : Hid (WR s.data.toList pad fold R1 2097154 0 false false l1 c1 false) :=
      ⟨Nat.zero_le _, HV.out, ⟨_, false, by omega, HR1.out, .inl rfl, (fun h => by cases h)⟩, (fun h => by cases h), (fun _ _ => rfl), (fun h => by cases h), by omega, by omega, by omega⟩
    clear HX HR1
    go_wp2_with fail
    go_loopg [6, 7, 8] s.size (fun g s6 s7 s8 wr => ∃ (spE br : Bool) (i : Nat), g = s.size - i ∧ s6 = .bool spE ∧ s7 = .bool br ∧ s8 = .int .i64 i ∧ ∃ l' c' wsx innx, Em S W wr E l' c' ind wsx innx ∧ WR s.data.toList pad fold R1 2097154 i spE br l' c' innx)
    case atStart => exact ⟨false, false, 0, rfl, rfl, rfl, rfl, l1, c1, false, false, hE, HW.out⟩
    case round =>
      clear HW hE
      obtain ⟨spE, br, i, rfl, rfl, rfl, rfl, l', c', wsx, innx, hE, hW⟩ := hrel
      have HW : Hid (WR s.data.toList pad fold R1 2097154 i spE br l' c' innx) := hW
      have b1 := hW.hl
      have b2 := hW.c1
      have b3 := hW.c2
      have b0 := hW.hi
      rw [HL.out] at b0
      clear hW
      by_cases hlt : i < s.size
      · have HLT : Hid (i < s.data.toList.length) := by rw [HL.out]; exact hlt
        have HB : Hid (bt s.data.toList i = s[i].toNat) := bt_byte s i hlt
        by_cases h32 : s[i].toNat = 32
        · have t32 : ((s[i].toNat : Int) == 32) = true := by simp [h32]
          have H32 : Hid (bt s.data.toList i = 32) := by rw [HB.out]; exact h32
          clear h32
          by_cases gF : fold = true ∧ spE = false ∧ 80 < c' ∧ 0 < i ∧ i + 1 < s.data.toList.length ∧ bt s.data.toList (i + 1) ≠ 32
          · obtain ⟨rfl, rfl, g3, g4, g5, g6⟩ := gF
            obtain ⟨hinn, hW2⟩ := HW.out.onFold hpad HLT.out H32.out rfl rfl g3 g4 g5 g6
            subst hinn
            rw [HL.out] at g5
            have t1 : ((s[i + 1].toNat : Int) != 32) = true := by
              rw [bt_byte s (i + 1) g5] at g6
              rw [bne_iff_ne]; omega
            have HW2 : Hid (WR s.data.toList pad true R1 2097154 (i + 1) true br (l' ++ 10 :: List.replicate pad 32) pad true) := hW2
            clear hW2 g6
            have cc : wr.cell? ⟨E, 1, none⟩ = some (.int .i64 c') := by obtain ⟨_, _, _, bx, _⟩ := hE; exact bx.c1
            go_wp2_with fail
            refine (writeIndent_any hE pad Hp.out hpad (by omega) (by omega) (by omega)).mono ?_
            rintro e w2 ⟨rfl, hE2⟩
            go_wp2
            go_roundg (s.size - (i + 1))
            case measure => omega
            case rel => exact ⟨true, br, i + 1, rfl, rfl, rfl, by go_num, _, _, _, _, hE2, HW2.out⟩
          · have hW2 := HW.out.onSpace HLT.out H32.out gF
            have HW2 : Hid (WR s.data.toList pad fold R1 2097154 (i + 1) true br (l' ++ [32]) (c' + 1) innx) := hW2
            have cc : wr.cell? ⟨E, 1, none⟩ = some (.int .i64 c') := by obtain ⟨_, _, _, bx, _⟩ := hE; exact bx.c1
            rw [HL.out] at gF
            have gG : fold = false ∨ (fold = true ∧ spE = true) ∨ (fold = true ∧ spE = false ∧ ¬ 80 < c') ∨ (fold = true ∧ spE = false ∧ 80 < c' ∧ ¬ 0 < i) ∨ (fold = true ∧ spE = false ∧ 80 < c' ∧ 0 < i ∧ ¬ i + 1 < s.size) ∨
                (fold = true ∧ spE = false ∧ 80 < c' ∧ 0 < i ∧ i + 1 < s.size ∧ bt s.data.toList (i + 1) = 32) := by
              cases fold
              · exact .inl rfl
              right
              cases spE
              case true => exact .inl ⟨rfl, rfl⟩
              right
              by_cases a3 : 80 < c'
              case neg => exact .inl ⟨rfl, rfl, a3⟩
              right
              by_cases a4 : 0 < i
              case neg => exact .inl ⟨rfl, rfl, a3, a4⟩
              right
              by_cases a5 : i + 1 < s.size
              case neg => exact .inl ⟨rfl, rfl, a3, a4, a5⟩
              right
              refine ⟨rfl, rfl, a3, a4, a5, ?_⟩
              by_cases a6 : bt s.data.toList (i + 1) = 32
              · exact a6
              · exact absurd ⟨rfl, rfl, a3, a4, a5, a6⟩ gF
            clear hW2 gF
            rcases gG with rfl | ⟨rfl, rfl⟩ | ⟨rfl, rfl, a3⟩ | ⟨rfl, rfl, a3, a4⟩ | ⟨rfl, rfl, a3, a4, a5⟩ | ⟨rfl, rfl, a3, a4, a5, a6⟩
            case' inr.inr.inr.inr.inr =>
              have t1 : ((s[i + 1].toNat : Int) != 32) = false := by
                rw [bt_byte s (i + 1) a5] at a6
                simp [a6]
              clear a6
            all_goals
              go_wp2_with fail
              refine (put_any hE 32 32 rfl (by omega) (by omega) (by omega)).mono ?_
              rintro e w2 ⟨rfl, hE2⟩
              go_wp2
              go_roundg (s.size - (i + 1))
              case measure => omega
              case rel => exact ⟨true, br, i + 1, rfl, rfl, rfl, by go_num, _, _, _, _, hE2, HW2.out⟩
        · have t32 : ((s[i].toNat : Int) == 32) = false := by simp; omega
          have H32 : Hid (bt s.data.toList i ≠ 32) := by rw [HB.out]; exact h32
          clear h32
          have HC2 : Hid (bt s.data.toList i = 194 → i + 1 < s.size) := fun e => by have := V_c2 HW.out.hV HLT.out e; rw [HL.out] at this; exact this
          have HE2 : Hid (bt s.data.toList i = 226 → i + 2 < s.size) := fun e => by have := V_e2 HW.out.hV HLT.out e; rw [HL.out] at this; exact this
          by_cases hb : brk s.data.toList i = 0
          · have HN : Hid (decide (brk s.data.toList i ≠ 0) = false) := by simp [Hid, hb]
            obtain ⟨k, HK⟩ : ∃ k, Hid (cw (bt s.data.toList i) = k) := ⟨_, rfl⟩
            obtain ⟨hle, hW2⟩ := HW.out.onChar hpad HLT.out H32.out hb k HK.out
            rw [HL.out] at hle
            have kp1 : 1 ≤ k := by rw [← HK.out]; exact cw_pos _
            clear hb
            cases br
            case false =>
              by_cases h39 : s[i].toNat = 39
              · have t39 : ((s[i].toNat : Int) == 39) = true := by simp [h39]
                have H39 : Hid (bt s.data.toList i = 39) := by rw [HB.out]; exact h39
                clear h39
                rw [if_pos H39.out, if_pos H39.out] at hW2
                have HW2 : Hid (WR s.data.toList pad fold R1 2097154 (i + k) false false ((l' ++ [39]) ++ sub s.data.toList i k) ((c' + 1) + 1) false) := hW2
                clear hW2
                go_wp2_with fail
                refine (isBreak_any s i _ hlt hs HC2.out HE2.out).mono ?_
                rintro e w2 ⟨rfl, rfl⟩
                rw [HN.out]
                go_wp2_with fail
                refine (put_any hE 39 39 rfl (by omega) (by omega) (by omega)).mono ?_
                rintro e w5 ⟨rfl, hE5⟩
                go_wp2_with fail
                refine (writeChar_any hE5 s i k hs hlt HK.out hle (by (try rw [List.length_append]); simp; omega) (by omega) (by omega)).mono ?_
                rintro e w6 ⟨rfl, v6, kp6, nE6, bx6, bB6⟩
                have d4 := bx6.c4
                have f4 := bx6.fz 4
                go_wp2
                go_roundg (s.size - (i + k))
                case measure => omega
                case rel => exact ⟨false, false, i + k, rfl, rfl, rfl, rfl, _, _, _, _, ⟨v6, kp6.setCell nE6 _, nE6, bx6.s4 _, bB6.setCell (.inr rfl) _⟩, HW2.out⟩
              · have t39 : ((s[i].toNat : Int) == 39) = false := by simp; omega
                have H39 : Hid (¬ bt s.data.toList i = 39) := by rw [HB.out]; exact h39
                clear h39
                rw [if_neg H39.out, if_neg H39.out] at hW2
                have HW2 : Hid (WR s.data.toList pad fold R1 2097154 (i + k) false false (l' ++ sub s.data.toList i k) (c' + 1) false) := hW2
                clear hW2
                go_wp2_with fail
                refine (isBreak_any s i _ hlt hs HC2.out HE2.out).mono ?_
                rintro e w2 ⟨rfl, rfl⟩
                rw [HN.out]
                go_wp2_with fail
                refine (writeChar_any hE s i k hs hlt HK.out hle (by omega) (by omega) (by omega)).mono ?_
                rintro e w6 ⟨rfl, v6, kp6, nE6, bx6, bB6⟩
                have d4 := bx6.c4
                have f4 := bx6.fz 4
                go_wp2
                go_roundg (s.size - (i + k))
                case measure => omega
                case rel => exact ⟨false, false, i + k, rfl, rfl, rfl, rfl, _, _, _, _, ⟨v6, kp6.setCell nE6 _, nE6, bx6.s4 _, bB6.setCell (.inr rfl) _⟩, HW2.out⟩
            case true =>
              have hin := HW.out.f2 rfl
              subst hin
              by_cases h39 : s[i].toNat = 39
              · have t39 : ((s[i].toNat : Int) == 39) = true := by simp [h39]
                have H39 : Hid (bt s.data.toList i = 39) := by rw [HB.out]; exact h39
                clear h39
                rw [if_pos H39.out, if_pos H39.out] at hW2
                have HW2 : Hid (WR s.data.toList pad fold R1 2097154 (i + k) false false ((indL pad l' c' ++ [39]) ++ sub s.data.toList i k) (((pad : Int) + 1) + 1) false) := hW2
                clear hW2
                have hA := indL_len pad l' c' (HW.out.f5 rfl)
                go_wp2_with fail
                refine (isBreak_any s i _ hlt hs HC2.out HE2.out).mono ?_
                rintro e w2 ⟨rfl, rfl⟩
                rw [HN.out]
                go_wp2_with fail
                refine (writeIndent_any hE pad Hp.out hpad (by omega) (by omega) (by omega)).mono ?_
                rintro e w3 ⟨rfl, hE3⟩
                have hE4 : Em S W w3 E (indL pad l' c') pad ind true true := hE3
                go_wp2_with fail
                refine (put_any hE4 39 39 rfl (by omega) (by omega) (by omega)).mono ?_
                rintro e w5 ⟨rfl, hE5⟩
                go_wp2_with fail
                refine (writeChar_any hE5 s i k hs hlt HK.out hle (by (try rw [List.length_append]); simp; omega) (by omega) (by omega)).mono ?_
                rintro e w6 ⟨rfl, v6, kp6, nE6, bx6, bB6⟩
                have d4 := bx6.c4
                have f4 := bx6.fz 4
                go_wp2
                go_roundg (s.size - (i + k))
                case measure => omega
                case rel => exact ⟨false, false, i + k, rfl, rfl, rfl, rfl, _, _, _, _, ⟨v6, kp6.setCell nE6 _, nE6, bx6.s4 _, bB6.setCell (.inr rfl) _⟩, HW2.out⟩
              · have t39 : ((s[i].toNat : Int) == 39) = false := by simp; omega
                have H39 : Hid (¬ bt s.data.toList i = 39) := by rw [HB.out]; exact h39
                clear h39
                rw [if_neg H39.out, if_neg H39.out] at hW2
                have HW2 : Hid (WR s.data.toList pad fold R1 2097154 (i + k) false false (indL pad l' c' ++ sub s.data.toList i k) ((pad : Int) + 1) false) := hW2
                clear hW2
                have hA := indL_len pad l' c' (HW.out.f5 rfl)
                go_wp2_with fail
                refine (isBreak_any s i _ hlt hs HC2.out HE2.out).mono ?_
                rintro e w2 ⟨rfl, rfl⟩
                rw [HN.out]
                go_wp2_with fail
                refine (writeIndent_any hE pad Hp.out hpad (by omega) (by omega) (by omega)).mono ?_
                rintro e w3 ⟨rfl, hE3⟩
                have hE4 : Em S W w3 E (indL pad l' c') pad ind true true := hE3
                go_wp2_with fail
                refine (writeChar_any hE4 s i k hs hlt HK.out hle (by omega) (by omega) (by omega)).mono ?_
                rintro e w6 ⟨rfl, v6, kp6, nE6, bx6, bB6⟩
                have d4 := bx6.c4
                have f4 := bx6.fz 4
                go_wp2
                go_roundg (s.size - (i + k))
                case measure => omega
                case rel => exact ⟨false, false, i + k, rfl, rfl, rfl, rfl, _, _, _, _, ⟨v6, kp6.setCell nE6 _, nE6, bx6.s4 _, bB6.setCell (.inr rfl) _⟩, HW2.out⟩
          · have HN : Hid (decide (brk s.data.toList i ≠ 0) = true) := by simp [Hid, hb]
            obtain ⟨k, HK⟩ : ∃ k, Hid (brk s.data.toList i = k) := ⟨_, rfl⟩
            have hk0 : k ≠ 0 := by rw [← HK.out]; exact hb
            have hW2 := HW.out.onBrk HLT.out k HK.out hk0
            have HW2 : Hid (WR s.data.toList pad fold R1 2097154 (i + k) spE true (l' ++ sub s.data.toList i k) 0 true) := hW2
            have hle := hW2.hi
            rw [HL.out] at hle
            clear hb hW2
            go_wp2_with fail
            refine (isBreak_any s i _ hlt hs HC2.out HE2.out).mono ?_
            rintro e w2 ⟨rfl, rfl⟩
            rw [HN.out]
            go_wp2_with fail
            refine (writeBreak_any hE s i k hs hlt HK.out hk0 (by omega) (by omega) (by omega)).mono ?_
            rintro e w3 ⟨rfl, v3, kp3, nE3, bx3, bB3⟩
            have d4 := bx3.c4
            have f4 := bx3.fz 4
            go_wp2
            go_roundg (s.size - (i + k))
            case measure => omega
            case rel => exact ⟨spE, true, i + k, rfl, rfl, rfl, rfl, _, _, _, _, ⟨v3, kp3.setCell nE3 _, nE3, bx3.s4 _, bB3.setCell (.inr rfl) _⟩, HW2.out⟩
      · obtain rfl : i = s.size := by omega
        have HD := HW.out.done (by rw [HL.out]; exact Nat.le_refl _)
        have HD2 : Hid (R = (l' ++ [39], c' + 1)) := by rw [← HX2.out, HD]; rfl
        clear HD
        go_wp2_with fail
        refine (indicator_no (spaced := false) hE (.inl rfl) (by omega) (by omega) (by omega)).mono ?_
        rintro e w2 ⟨rfl, v2, kp, nE, bx, bB⟩
        have d3 := bx.c3
        have d4 := bx.c4
        have f3 := bx.fz 3
        have f4 := bx.fz 4
        go_wp2
        go_end0
        rw [HD2.out]
        exact ⟨rfl, v2, (kp.setCell nE _).setCell nE _, nE, (bx.s3 _).s4 _, (bB.setCell (.inr rfl) _).setCell (.inr rfl) _⟩
end Go.Proofs.Qxb6630530a
