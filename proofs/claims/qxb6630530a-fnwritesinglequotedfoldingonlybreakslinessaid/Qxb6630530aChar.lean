/-
  The walks of 'writeChar' and 'writeBreak'.
-/
import Derived.Test.Qxb6630530aEmit
import Derived.Test.Qxb6630530aSmall
import Derived.Deep.RegionLaw
namespace Go.Proofs.Qxb6630530a
open Go.RowKit
set_option linter.unusedVariables false

theorem sub_extract (s : ByteArray) (i w : Nat) : (s.extract i (i + w)).data.toList = sub s.data.toList i w := by
  simp [sub, List.extract_eq_take_drop]

set_option maxHeartbeats 400000 in
theorem writeChar_any {S : Nat → Prop} {W w : World} {E : Nat} {l : List UInt8} {col ind : Int} {ws inn : Bool} (h : Em S W w E l col ind ws inn) (s : ByteArray) (i k : Nat)
    (hs : s.size ≤ 1048576) (hi : i < s.size) (hk : cw (bt s.data.toList i) = k) (hw : i + k ≤ s.size)
    (hl : l.length ≤ 35184372088832) (h1 : -1000000000000 ≤ col) (h2 : col ≤ 1000000000000) :
    Calls Try.prog 23 #[.pointer (some ⟨E, 0, none⟩), .string s, .int .i64 (i : Int)] w fun e w' => e = .returned (.int .i64 ((i + k : Nat) : Int)) ∧ Em S W w' E (l ++ sub s.data.toList i k) (col + 1) ind ws inn := by
  obtain ⟨v, hkp, hnE, hbox, hB⟩ := h
  have c0 := hbox.c0
  have kp : 1 ≤ k := by rw [← hk]; exact cw_pos _
  have kl : k ≤ 4 := by rw [← hk]; exact cw_le _
  have Hcw : Hid (cw s[i].toNat = k) := by rw [← hk, bt_byte s i hi]; rfl
  have Hsl : Hid ((sub s.data.toList i k).length = k) := sub_length (by simpa using hw)
  clear hk
  have r1 : IntKind.i64.wrap ((i : Int) + (k : Int)) = (i : Int) + (k : Int) := by rw [IntKind.wrap_i64]; omega
  have r2 : ((i : Int) + (k : Int)).toNat = i + k := by omega
  have r3 : (0 : Int) ≤ (i : Int) + (k : Int) := by omega
  have r4 : (i : Int) + (k : Int) ≤ (s.size : Int) := by omega
  have r5 : (i : Int) ≤ (i : Int) + (k : Int) := by omega
  go_enter Try.func23, Try.ntmps23
  go_wp2_with fail
  refine (charWidth_any s[i].toNat w (UInt8.toNat_lt _)).mono ?_
  rintro e w' ⟨rfl, rfl⟩
  rw [Hcw.out]
  go_wp2_with fail
  go_region_law ((refine step_app (m := sub s.data.toList i k) hB.drew (Src_str _ _ _ (sub_extract s i k)) (by rw [Hsl.out]; omega) (fun _ e => by have := Hsl.out; rw [e] at this; simp at this; omega) rfl (.tmp 16) (.tmp 22) rfl rfl rfl ?_; intro v' w1 hB1 hk1; obtain ⟨ad, n, cap, rfl⟩ := hB1.form; have hk2 := (Keep.refl (fun k => S k ∨ k = E) w').drew.trans hk1; have hbox1 := hbox.keep hk2 (.inr rfl); have d0 := hbox1.c0; have f0 := hbox1.fz 0; have d1 := hbox1.c1; have f1 := hbox1.fz 1))
  go_wp2
  go_ret
  refine ⟨ret_int (by omega), _, ?_, hnE, (hbox1.s0 _).s1 _, (hB1.setCell (.inr rfl) _).setCell (.inr rfl) _⟩
  exact ((hkp.trans (hk2.mono fun k hk => .inl hk)).setCell hnE _).setCell hnE _

set_option maxHeartbeats 400000 in
theorem writeBreak_any {S : Nat → Prop} {W w : World} {E : Nat} {l : List UInt8} {col ind : Int} {ws inn : Bool} (h : Em S W w E l col ind ws inn) (s : ByteArray) (i k : Nat)
    (hs : s.size ≤ 1048576) (hi : i < s.size) (hk : brk s.data.toList i = k) (hk0 : k ≠ 0)
    (hl : l.length ≤ 35184372088832) (h1 : -1000000000000 ≤ col) (h2 : col ≤ 1000000000000) :
    Calls Try.prog 22 #[.pointer (some ⟨E, 0, none⟩), .string s, .int .i64 (i : Int)] w fun e w' => e = .returned (.int .i64 ((i + k : Nat) : Int)) ∧ Em S W w' E (l ++ sub s.data.toList i k) 0 ind ws inn := by
  have hle : i + k ≤ s.size := by rw [← hk]; simpa using brk_lt (s := s.data.toList) (i := i) (by omega)
  have hcw : cw (bt s.data.toList i) = k := by rw [← hk]; exact (brk_cw (by omega)).symm
  by_cases h10 : s[i].toNat = 10
  · have e1 : k = 1 := by rw [← hcw, bt_byte s i hi, h10]; rfl
    have Hsub : Hid (sub s.data.toList i k = [10]) := by
      subst e1
      have hlt : i < s.data.toList.length := by simpa using hi
      unfold Hid sub
      rw [List.drop_eq_getElem_cons hlt]
      have : s.data.toList[i] = 10 := UInt8.toNat.inj h10
      simp [this]
    have hb : ((s[i].toNat : Int) == 10) = true := by simp [h10]
    subst e1
    rw [Hsub.out]
    clear hk h10 hcw
    go_enter Try.func22, Try.ntmps22
    go_wp2_with fail
    refine (newline_any h hl).mono ?_
    rintro e w' ⟨rfl, hE⟩
    go_wp2
    go_ret
    exact ⟨ret_int (by omega), hE⟩
  · have hb : ((s[i].toNat : Int) == 10) = false := by simp; omega
    have Hcw : Hid (cw (bt s.data.toList i) = k) := hcw
    clear hk h10 hcw
    go_enter Try.func22, Try.ntmps22
    go_wp2_with fail
    refine (writeChar_any h s i k hs hi Hcw.out hle hl h1 h2).mono ?_
    rintro e w' ⟨rfl, v, hkp, hnE, hbox, hB⟩
    have c1 := hbox.c1
    have f1 := hbox.fz 1
    go_wp2
    go_ret
    exact ⟨rfl, v, hkp.setCell hnE _, hnE, hbox.s1 _, hB.setCell (.inr rfl) _⟩
end Go.Proofs.Qxb6630530a
