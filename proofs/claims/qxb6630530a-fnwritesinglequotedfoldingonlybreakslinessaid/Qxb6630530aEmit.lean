/-
  The walks of the emitter's small methods.
-/
import Derived.Test.Qxb6630530aMem
namespace Go.Proofs.Qxb6630530a
open Go.RowKit

set_option maxHeartbeats 400000 in
theorem put_any {S : Nat → Prop} {W w : World} {E : Nat} {l : List UInt8} {col ind : Int} {ws inn : Bool} (h : Em S W w E l col ind ws inn) (c : UInt8) (z : Int) (hz : z = (c.toNat : Int))
    (hl : l.length ≤ 35184372088832) (h1 : -1000000000000 ≤ col) (h2 : col ≤ 1000000000000) :
    Calls Try.prog 20 #[.pointer (some ⟨E, 0, none⟩), .int .u8 z] w fun e w' => e = .returned (.tuple #[]) ∧ Em S W w' E (l ++ [c]) (col + 1) ind ws inn := by
  obtain ⟨v, hk, hnE, hbox, hB⟩ := h
  have c0 := hbox.c0
  have Hz : Hid (z = (c.toNat : Int)) := hz
  clear hz
  go_enter Try.func20, Try.ntmps20
  go_wp2_with (at_builtin; refine wpList_put hB c z Hz.out hl rfl (.tmp 8) (.tmp 10) rfl rfl rfl ?_)
  intro v' w1 hB1 hk1
  obtain ⟨ad, n, cap, rfl⟩ := hB1.form
  have hbox1 := hbox.keep hk1 (.inr rfl)
  have d0 := hbox1.c0
  have d1 := hbox1.c1
  have f0 := hbox1.fz 0
  have f1 := hbox1.fz 1
  clear c0
  go_wp2
  go_end0
  refine ⟨rfl, _, ?_, hnE, (hbox1.s0 _).s1 _, (hB1.setCell (.inr rfl) _).setCell (.inr rfl) _⟩
  exact ((hk.trans (hk1.mono fun k hk => .inl hk)).setCell hnE _).setCell hnE _

set_option maxHeartbeats 400000 in
theorem newline_any {S : Nat → Prop} {W w : World} {E : Nat} {l : List UInt8} {col ind : Int} {ws inn : Bool} (h : Em S W w E l col ind ws inn)
    (hl : l.length ≤ 35184372088832) :
    Calls Try.prog 24 #[.pointer (some ⟨E, 0, none⟩)] w fun e w' => e = .returned (.tuple #[]) ∧ Em S W w' E (l ++ [10]) 0 ind ws inn := by
  obtain ⟨v, hk, hnE, hbox, hB⟩ := h
  have c0 := hbox.c0
  go_enter Try.func24, Try.ntmps24
  go_wp2_with (at_builtin; refine wpList_put hB 10 10 rfl hl rfl (.tmp 6) (.tmp 7) rfl rfl rfl ?_)
  intro v' w1 hB1 hk1
  obtain ⟨ad, n, cap, rfl⟩ := hB1.form
  have hbox1 := hbox.keep hk1 (.inr rfl)
  have d0 := hbox1.c0
  have d1 := hbox1.c1
  have f0 := hbox1.fz 0
  have f1 := hbox1.fz 1
  clear c0
  go_wp2
  go_end0
  refine ⟨rfl, _, ?_, hnE, (hbox1.s0 _).s1 _, (hB1.setCell (.inr rfl) _).setCell (.inr rfl) _⟩
  exact ((hk.trans (hk1.mono fun k hk => .inl hk)).setCell hnE _).setCell hnE _
end Go.Proofs.Qxb6630530a
