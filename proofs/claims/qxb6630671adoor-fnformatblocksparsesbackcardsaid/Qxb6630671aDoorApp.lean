/-
  Appends onto a buffer of one's own; the walk of 'AppendChecksum'.
-/
import Derived.Test.Qxb6630671aDoorHex
import Derived.Lib.AppendStr
import Derived.Laws.AppendOwn
import Derived.RegionTactic
import Derived.Deep.RegionLaw
namespace Go.Proofs.Qxb6630671aDoor
open Go.RowKit
set_option linter.unusedVariables false
set_option linter.unusedSimpArgs false

/-- v is a buffer of one's own (at B or behind it) that holds the bytes l. -/
def Ow (B : Nat) (w : World) (v : Value) (l : List UInt8) : Prop := w.ownsRow B 5 1 v l.length (Lib.byteCells l) ∧ B ≤ w.heap.size

theorem fr_grown {B : Nat} {w w' : World} {v : Value} {n : Nat} {xs : List Value} (h : w.ownsRow B 5 1 v n xs) (hB : B ≤ w.heap.size) (hg : w.grownBy w' v.ownBlock) : Fr B w w' := by
  refine ⟨⟨hg.os, hg.tape, hg.output, hg.size, fun k hk => hg.block k (Nat.lt_of_lt_of_le hk hB) fun e => ?_⟩, (Lib.OthersKept.refl _ _ _).grown hg fun g hg' => ?_⟩
  · have := (h.lt k e.symm).1
    omega
  · rcases h.2 with ⟨rfl, _⟩ | ⟨g', cap, cur, rfl, _, hh, _⟩
    · cases hg'
    · simp only [Value.ownBlock, Option.some.injEq] at hg'
      subst hg'
      exact ⟨cur, _, hh⟩

theorem Ow.alloc {B : Nat} {w : World} {v : Value} {l : List UInt8} (h : Ow B w v l) (o : Obj) : Ow B (w.alloc o) v l := ⟨h.1.alloc o, Nat.le_trans h.2 (by simp)⟩
theorem Ow.drew {B : Nat} {w : World} {v : Value} {l : List UInt8} (h : Ow B w v l) : Ow B w.drew v l := h
theorem bc_append (a b : List UInt8) : Lib.byteCells (a ++ b) = Lib.byteCells a ++ Lib.byteCells b := by simp [Lib.byteCells]

/-- A buffer of one's own that is not empty lies somewhere. -/
theorem Ow.form {B : Nat} {w : World} {v : Value} {l : List UInt8} (h : Ow B w v l) : ∃ a cap, v = .slice a l.length cap := by
  rcases h.1.2 with ⟨rfl, h0⟩ | ⟨g, cap, cur, rfl, _⟩
  · rw [h0]; exact ⟨_, _, rfl⟩
  · exact ⟨_, _, rfl⟩

section
variable {B : Nat} {w : World} {v : Value} {l : List UInt8} {ops : Array Oper} {rest : List Oper} {o : Oper} {a : Act} {K : Act → World → Prop} {Q : Exit → Act → World → Prop}

/-- 'append(b, s...)', s a string. -/
theorem wp_apps (hO : Ow B w v l) (s : ByteArray) (m : List UInt8) (hm : s.data.toList = m) (hlim : l.length + m.length ≤ 70368744177664)
    (sl x : Operand) (ho : o.op = .call { callee := .builtin .append, args := #[sl, x], argTypes := #[35, 9] }) (hv : a.eval sl = v) (hx : a.eval x = .string s)
    (h : ∀ v' w', Ow B w' v' (l ++ m) → Fr B w w' → K (a.put o.dst v') w') : o.wp Tryd.prog a w K Q := by
  subst hm
  obtain ⟨i, hi, hz, hs, hb⟩ := info5'
  have hss : s.size = s.data.toList.length := rfl
  obtain ⟨v', w', hr, h2, h3, h4⟩ := Lib.run_append_own_string (P := Tryd.prog) w B 35 9 o.type 5 i Tryd.underlying35 Tryd.underlying9 hi hz hs hb v _ _ hO.1 s (by unfold maxLen; omega) (by omega) hO.2
  unfold Oper.wp execOp
  simp only [ho, resolve, invoke, builtin, Sem.run_bind, Sem.run_pure, Result.andThen_ok, List.map_toArray, List.map_cons, List.map_nil, hv, hx, hr]
  refine h v' w' ⟨?_, Nat.le_trans hO.2 h3.size⟩ (fr_grown hO.1 hO.2 h3)
  rw [List.length_append, bc_append, ← hss]
  exact h2

theorem wpList_apps (hO : Ow B w v l) (s : ByteArray) (m : List UInt8) (hm : s.data.toList = m) (hlim : l.length + m.length ≤ 70368744177664)
    (hgd : o.guard = none) (sl x : Operand) (ho : o.op = .call { callee := .builtin .append, args := #[sl, x], argTypes := #[35, 9] }) (hv : a.eval sl = v) (hx : a.eval x = .string s)
    (h : ∀ v' w', Ow B w' v' (l ++ m) → Fr B w w' → wpList Tryd.prog ops Q rest (a.put o.dst v') w') : wpList Tryd.prog ops Q (o :: rest) a w :=
  wpList_plain hgd fun _ hK => wp_apps hO s m hm hlim sl x ho hv hx fun v' w' h2 h3 => hK _ _ (h v' w' h2 h3)

theorem step_apps {X : Prop} (hO : Ow B w v l) (s : ByteArray) (m : List UInt8) (hm : s.data.toList = m) (hlim : l.length + m.length ≤ 70368744177664)
    (hgd : o.guard = none) (sl x : Operand) (ho : o.op = .call { callee := .builtin .append, args := #[sl, x], argTypes := #[35, 9] }) (hv : a.eval sl = v) (hx : a.eval x = .string s)
    (h : ∀ v' w', Ow B w' v' (l ++ m) → Fr B w w' → K (a.put o.dst v') w') : if Region.wanted o (yielded ops a.tmps) = true then Oper.wp Tryd.prog o a w K Q else X := by
  have hw : Region.wanted o (yielded ops a.tmps) = true := by simp [Region.wanted, hgd]
  rw [if_pos hw]
  exact wp_apps hO s m hm hlim sl x ho hv hx h

/-- 'append(b, c)': one byte: its block has just been laid. -/
theorem wpList_put (hO : Ow B w v l) (c : UInt8) (z : Int) (hz : z = (c.toNat : Int)) (hlim : l.length ≤ 35184372088832)
    (hgd : o.guard = none) (s x : Operand) (ho : o.op = .call { callee := .builtin .append, args := #[s, x], argTypes := #[35, 35] }) (hv : a.eval s = v) (hx : a.eval x = .slice (some ⟨w.heap.size, 0, none⟩) 1 1)
    (h : ∀ v' w', Ow B w' v' (l ++ [c]) → Fr B w w' → wpList Tryd.prog ops Q rest (a.put o.dst v') w') : wpList Tryd.prog ops Q (o :: rest) a (w.alloc (.cells #[.int .u8 z] 5)) := by
  subst hz
  obtain ⟨i, hi, hzz, hs, hb⟩ := info5'
  have hO' := hO.alloc (.cells #[.int .u8 (c.toNat : Int)] 5)
  refine wpList_plain hgd fun K hK => ?_
  obtain ⟨v', w', hr, h2, h3, h4⟩ := run_append_own (P := Tryd.prog) (w.alloc (.cells #[.int .u8 (c.toNat : Int)] 5)) B 35 o.type 5 i (.int .u8 0) 1 1 Tryd.underlying35 hi hzz hs hb rfl (by omega) v _ _ hO'.1 ⟨w.heap.size, 0, none⟩ 1 1 (Lib.byteCells [c]) rfl
    (fun j u hj => by
      rw [Addr.add_mid, cell_of_row _ w.heap.size (0 + j) _ 5 (0, 0) (Go.heap_alloc_new w _)]
      match j, hj with
      | 0, hj => simpa [Lib.byteCells] using hj) (fun u hu => by
      simp [Lib.byteCells] at hu; subst hu; rfl) (by unfold maxLen; omega) (by omega) hO'.2
  unfold Oper.wp execOp
  simp only [ho, resolve, invoke, builtin, Sem.run_bind, Sem.run_pure, Result.andThen_ok, List.map_toArray, List.map_cons, List.map_nil, hv, hx, hr]
  refine hK _ _ (h v' w' ⟨?_, Nat.le_trans hO'.2 h3.size⟩ (((Fr.refl B w).alloc hO.2 _).trans (fr_grown hO'.1 hO'.2 h3)))
  rw [List.length_append, bc_append]
  exact h2
end

def sha : List UInt8 := [115, 104, 97, 50, 53, 54, 58]

set_option maxRecDepth 10000 in
set_option maxHeartbeats 1000000 in
theorem sum_any (B : Nat) (v : Value) (L : List UInt8) (w : World) (hO : Ow B w v L) (hlim : L.length ≤ 549755813888) (l : List UInt8) (hl : l.length = 32) :
    Calls Tryd.prog 13 #[v, .agg (Lib.byteCells l).toArray] w fun e w' => ∃ v', e = .returned v' ∧ Ow B w' v' (L ++ (sha ++ Lib.Hx.encode l)) ∧ Fr B w w' := by
  go_enter Tryd.func13, Tryd.ntmps13
  go_wp2_with fail
  have hb := Go.heap_alloc_new w (.cells (Lib.byteCells l).toArray 28)
  have HO := hid hO
  have Hb := hid hb
  clear hO hb
  go_region_held3 (fun w' => w'.heap[w.heap.size]? = some (.cells (Lib.byteCells l).toArray 28 (0, 0)))
    (first | assumption | exact Hb.out | exact hf1.2 _ _ Hb.out (by simp) (fun c fz e => by cases e) | exact hf2.2 _ _ (hf1.2 _ _ Hb.out (by simp) (fun c fz e => by cases e)) (by simp) (fun c fz e => by cases e))
    (first
      | (refine step_apps (HO.out.alloc (.cells (Lib.byteCells l).toArray 28)).drew ⟨#[115, 104, 97, 50, 53, 54, 58]⟩ sha rfl (by simp [sha]; omega) rfl (.tmp 5) (.const (.string ⟨#[115, 104, 97, 50, 53, 54, 58]⟩)) (by rfl) (by rfl) (by rfl) ?_; intro v1 w1 hO1 hf1)
      | (go_at_call 15; refine (enc_any B _ v1 _ w1 hO1.1 hO1.2 (by simp [sha]) (by simp [sha]; omega) w.heap.size _ (hf1.2 _ _ Hb.out (by simp) (fun c fz e => by cases e)) l hl rfl).mono ?_; rintro e w2 ⟨v2, rfl, hO2, hf2⟩))
  clear Hb
  go_wp2
  go_ret
  refine ⟨v2, rfl, ⟨?_, Nat.le_trans hO1.2 hf2.1.size⟩, (((Fr.refl B w).alloc HO.out.2 _).drew.trans hf1).trans hf2⟩
  have hle : (Lib.Hx.encode l).length = 64 := by rw [Lib.Hx.encode_length]; omega
  rw [← List.append_assoc, List.length_append, hle, bc_append]
  exact hO2
end Go.Proofs.Qxb6630671aDoor
