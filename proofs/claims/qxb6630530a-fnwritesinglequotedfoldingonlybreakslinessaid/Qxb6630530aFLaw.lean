/-
  Folding only breaks lines: what both runs come to. No Go in sight.
-/
import Derived.Test.Qxb6630530aURel
namespace Go.Proofs.Qxb6630530a
set_option linter.unusedVariables false

/-- What is written ahead of the text: its bytes, its column. -/
def pre (ws : Bool) (l : List UInt8) : List UInt8 := (if ws then l else l ++ [32]) ++ [39]
def preC (ws : Bool) (c : Int) : Int := (if ws then c else c + 1) + 1

/-- The unfolded scalar. -/
def want (s : List UInt8) (ws : Bool) (l : List UInt8) : List UInt8 := pre ws l ++ dbl s ++ [39]
def wantC (s : List UInt8) (ws : Bool) (c : Int) : Int := preC ws c + cnt s + 1

theorem scalar_plain (s : List UInt8) (pad : Nat) (ws : Bool) (l : List UInt8) (c : Int) (hV : V s 0) (hnb : ∀ j, j < s.length → brk s j = 0) : scalar s pad false ws l c = (want s ws l, wantC s ws c) := by
  unfold scalar
  rw [lay_plain s pad hnb s.length 0 false _ _ (by omega) hV, List.drop_zero]
  rfl

theorem pre_run (ws : Bool) (l : List UInt8) : ∃ y, pre ws l = l ++ y ∧ 0 < y.length ∧ (∀ x ∈ y, x.toNat ≠ 10) ∧ ∀ c : Int, c + cc y = preC ws c := by
  cases ws
  · exact ⟨[32, 39], by simp [pre], by simp, by simp, fun c => by simp [cc, preC]; omega⟩
  · exact ⟨[39], by simp [pre], by simp, by simp, fun c => by simp [cc, preC]⟩

theorem scalar_unf (s : List UInt8) (pad : Nat) (ws : Bool) (l : List UInt8) (c : Int) (hV : V s 0) (hnb : ∀ j, j < s.length → brk s j = 0) :
    l.length < (scalar s pad true ws l c).1.length ∧ ∃ m, unf (scalar s pad true ws l c).1 l.length pad m l.length ((scalar s pad true ws l c).1.take l.length) c = some (want s ws l, (scalar s pad true ws l c).2) := by
  obtain ⟨y, hy, hy0, hno, hcc⟩ := pre_run ws l
  have e : (scalar s pad true ws l c).1 = (lay s pad true s.length 0 false false (pre ws l) (preC ws c)).1 ++ [39] := rfl
  have e' : (scalar s pad true ws l c).2 = (lay s pad true s.length 0 false false (pre ws l) (preC ws c)).2 + 1 := rfl
  obtain ⟨x, hx⟩ := lay_ext s pad true s.length 0 false (pre ws l) (preC ws c) hnb
  obtain ⟨m, hm⟩ := unf_lay s pad l.length hnb s.length 0 false (pre ws l) (pre ws l) (preC ws c) (by omega) hV (by rw [hy]; simp; omega) (fun _ h => by omega)
  have hb : (lay s pad true s.length 0 false false (pre ws l) (preC ws c)).1 ++ [39] = l ++ y ++ (x ++ [39]) := by rw [hx, hy]; simp
  have ht : ((lay s pad true s.length 0 false false (pre ws l) (preC ws c)).1 ++ [39]).take l.length = l := by rw [hb, List.append_assoc]; simp
  refine ⟨by rw [e, hb]; simp; omega, m + y.length, ?_⟩
  rw [e, e', ht]
  have hrun := unf_run l.length pad y l (x ++ [39]) l c m hno
  rw [hb] at hm ⊢
  rw [hrun, hcc c]
  have hl : l.length + y.length = (pre ws l).length := by rw [hy]; simp
  rw [hl]
  have hly : l ++ y = pre ws l := hy.symm
  rw [hly] at hm ⊢
  rw [hm, List.drop_zero]
  rfl

theorem dbl_take (s : List UInt8) (k : Nat) (h : k < s.length) : dbl (s.take (k + 1)) = dbl (s.take k) ++ dbl1 s[k] := by
  rw [List.take_succ_eq_append_getElem h, dbl_append]
  simp [dbl]
theorem cnt_take (s : List UInt8) (k : Nat) (h : k < s.length) : cnt (s.take (k + 1)) = cnt (s.take k) + cnt1 s[k] := by
  rw [List.take_succ_eq_append_getElem h, cnt_append]
  simp [cnt]
end Go.Proofs.Qxb6630530a
