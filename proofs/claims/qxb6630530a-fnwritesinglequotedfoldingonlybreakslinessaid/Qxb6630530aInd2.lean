/-
  The walk of 'indicator', at a quote.
-/
import Derived.Test.Qxb6630530aEmit
namespace Go.Proofs.Qxb6630530a
open Go.RowKit
set_option linter.unusedVariables false

theorem quote_bytes : (⟨#[39]⟩ : ByteArray).data.toList = [39] := rfl

set_option maxHeartbeats 1000000 in
theorem indicator_no {S : Nat → Prop} {W w : World} {E : Nat} {l : List UInt8} {col ind : Int} {ws inn spaced : Bool} (h : Em S W w E l col ind ws inn) (hsp : spaced = false ∨ ws = true)
    (hl : l.length ≤ 17592186044416) (h1 : -10000000000 ≤ col) (h2 : col ≤ 10000000000) :
    Calls Try.prog 18 #[.pointer (some ⟨E, 0, none⟩), .string ⟨#[39]⟩, .bool spaced, .bool false, .bool false] w fun e w' => e = .returned (.tuple #[]) ∧ Em S W w' E (l ++ [39]) (col + 1) ind false false := by
  obtain ⟨v, hkp, hnE, hbox, hB⟩ := h
  have c0 := hbox.c0
  have c3 := hbox.c3
  have hh : spaced = false ∨ (spaced = true ∧ ws = true) := by
    cases spaced
    · exact .inl rfl
    · exact .inr ⟨rfl, by
        rcases hsp with h | h
        · cases h
        · exact h⟩
  clear hsp
  rcases hh with rfl | ⟨rfl, rfl⟩
  all_goals
    cases inn
    all_goals
      go_enter Try.func18, Try.ntmps18
      go_wp2_with (at_builtin; refine wpList_app (m := [39]) hB (Src_str _ _ _ quote_bytes) (by simp; omega) (by simp) rfl (.tmp 24) (.tmp 25) rfl rfl rfl ?_; intro v' w1 hB1 hk1; obtain ⟨ad, n, cap, rfl⟩ := hB1.form; have hbox1 := hbox.keep hk1 (.inr rfl); have d0 := hbox1.c0; have f0 := hbox1.fz 0; have d1 := hbox1.c1; have f1 := hbox1.fz 1; have d3 := hbox1.c3; have f3 := hbox1.fz 3; have d4 := hbox1.c4; have f4 := hbox1.fz 4)
      go_end0
      refine ⟨rfl, _, ?_, hnE, (((hbox1.s0 _).s1 _).s3 _).s4 _, (((hB1.setCell (.inr rfl) _).setCell (.inr rfl) _).setCell (.inr rfl) _).setCell (.inr rfl) _⟩
      exact ((((hkp.trans (hk1.mono fun k hk => .inl hk)).setCell hnE _).setCell hnE _).setCell hnE _).setCell hnE _

set_option maxHeartbeats 1000000 in
theorem indicator_sp {S : Nat → Prop} {W w : World} {E : Nat} {l : List UInt8} {col ind : Int} {inn : Bool} (h : Em S W w E l col ind false inn)
    (hl : l.length ≤ 17592186044416) (h1 : -10000000000 ≤ col) (h2 : col ≤ 10000000000) :
    Calls Try.prog 18 #[.pointer (some ⟨E, 0, none⟩), .string ⟨#[39]⟩, .bool true, .bool false, .bool false] w fun e w' => e = .returned (.tuple #[]) ∧ Em S W w' E (l ++ [32] ++ [39]) (col + 1 + 1) ind false false := by
  obtain ⟨v, hkp, hnE, hbox, hB⟩ := h
  have hE : Em S W w E l col ind false inn := ⟨v, hkp, hnE, hbox, hB⟩
  have c3 := hbox.c3
  cases inn
  all_goals
    go_enter Try.func18, Try.ntmps18
    go_wp2_with fail
    refine (put_any hE 32 32 rfl (by omega) (by omega) (by omega)).mono ?_
    rintro e w0 ⟨rfl, hE0⟩
    clear hkp hbox hB hE c3
    have hl0 : (l ++ [32]).length ≤ 17592186044417 := by simp; omega
    obtain ⟨v0, hkp, _, hbox, hB⟩ := hE0
    have c0 := hbox.c0
    go_wp2_with (at_builtin; refine wpList_app (m := [39]) hB (Src_str _ _ _ quote_bytes) (by simp; omega) (by simp) rfl (.tmp 24) (.tmp 25) rfl rfl rfl ?_; intro v' w1 hB1 hk1; obtain ⟨ad, n, cap, rfl⟩ := hB1.form; have hbox1 := hbox.keep hk1 (.inr rfl); have d0 := hbox1.c0; have f0 := hbox1.fz 0; have d1 := hbox1.c1; have f1 := hbox1.fz 1; have d3 := hbox1.c3; have f3 := hbox1.fz 3; have d4 := hbox1.c4; have f4 := hbox1.fz 4)
    go_end0
    refine ⟨rfl, _, ?_, hnE, (((hbox1.s0 _).s1 _).s3 _).s4 _, (((hB1.setCell (.inr rfl) _).setCell (.inr rfl) _).setCell (.inr rfl) _).setCell (.inr rfl) _⟩
    exact ((((hkp.trans (hk1.mono fun k hk => .inl hk)).setCell hnE _).setCell hnE _).setCell hnE _).setCell hnE _
end Go.Proofs.Qxb6630530a
