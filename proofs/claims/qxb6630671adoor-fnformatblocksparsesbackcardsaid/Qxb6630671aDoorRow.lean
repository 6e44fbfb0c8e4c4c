/-
  What both rows share: a slice of blocks that came in, opened; the listed table, read.
-/
import Derived.Test.Qxb6630671aDoorRows
import Derived.Test.Qxb6630671aDoorTo
import Derived.WalkKit
import Derived.ProofKit
import Derived.OpenShut
import Derived.ChangeSame
import Derived.LaidMore
import Derived.Stop.Joined
import Derived.Lib.LaidTab
import Derived.Lib.AppendIntMem
import Derived.Lib.ItoaNum
namespace Go.Proofs.Qxb6630671aDoor
open Go.ChangeShapes Go.WideShapes Go.ChangeAt Go.RowKit
set_option linter.unusedVariables false
set_option linter.unusedSimpArgs false

theorem own : ownKnob Tryd.prog.godebug = none := by kernel_rfl
theorem laidOut : laidOutB Tryd.prog = true := by kernel_rfl
theorem cells30 : Tryd.prog.cellsOf 30 = 33 := by kernel_rfl
theorem cells28 : Tryd.prog.cellsOf 28 = 32 := by kernel_rfl
theorem cells5 : Tryd.prog.cellsOf 5 = 1 := by kernel_rfl
theorem cells2 : Tryd.prog.cellsOf 2 = 1 := by kernel_rfl

theorem exists_list {α : Type} {Q : Nat → α → Prop} : ∀ n : Nat, (∀ i, i < n → ∃ b, Q i b) → ∃ bs : List α, bs.length = n ∧ ∀ i (h : i < bs.length), Q i bs[i]
  | 0, _ => ⟨[], rfl, fun i h => absurd h (by simp)⟩
  | n + 1, H => by
    obtain ⟨bs, hl, hb⟩ := exists_list n fun i hi => H i (by omega)
    obtain ⟨b, hQ⟩ := H n (by omega)
    refine ⟨bs ++ [b], by simp [hl], fun i hi => ?_⟩
    by_cases h : i < bs.length
    · rw [List.getElem_append_left h]; exact hb i h
    · obtain rfl : i = n := by simp at hi; omega
      rw [List.getElem_append_right (by omega)]
      simpa using hQ

section
variable {H : Type} {enc : TypeId × Value → H} {w : World} {base : Nat} {spare : Nat → Bool} {held : Bool} {fuel : Nat}

/-- One block, as it reads. -/
theorem bk_of {cs : List Value} {x : DataW H × List MemPlace} (h : DataW.trod enc Tryd.prog w base spare held fuel 30 cs = some x) : ∃ b : Bk, b.Ok ∧ cs = Bk.cells b := by
  obtain ⟨y0, y1, n, _, hl, h0, h1⟩ := trod_struct2 Tryd.underlying30 h
  rw [cells30] at hl
  obtain ⟨c, hc, _, hw⟩ := DataW.trod_int Tryd.underlying2 h0
  obtain ⟨xs, m, _, _, hl1, hxl, hel⟩ := DataW.trod_array Tryd.underlying28 h1
  simp only [cells2, cells28, cells5] at hc hl1 hel
  have hb := bounds_i64 hw
  have hby : ∀ i, i < 32 → ∃ u : UInt8, cs[i + 1]? = some (.int .u8 (u.toNat : Int)) := by
    intro i hi
    have h2 := hel i hi
    have hx : i < xs.length := by omega
    rw [List.getElem?_eq_getElem hx] at h2
    obtain ⟨z, hz, _, hwz⟩ := DataW.trod_int Tryd.underlying5 h2
    have hbz := bounds_u8 hwz
    refine ⟨UInt8.ofNat z.toNat, ?_⟩
    have e : ((((cs.drop 1).take 32).drop (i * 1)).take 1)[0]? = some (.int .u8 z) := by
      rw [hz]; rfl
    rw [List.getElem?_take_of_lt (by omega), List.getElem?_drop, List.getElem?_take_of_lt (by omega), List.getElem?_drop] at e
    rw [UInt8.toNat_ofNat', Nat.mod_eq_of_lt (by omega)]
    rw [show i + 1 = 1 + (i * 1 + 0) by omega, e]
    congr 2
    omega
  obtain ⟨l, hll, hlq⟩ := exists_list 32 hby
  refine ⟨(c, l), ⟨hll, hb.1, hb.2⟩, ?_⟩
  apply List.ext_getElem?
  intro i
  rcases i with _ | i
  · have e : (((cs.drop 0).take 1))[0]? = some (.int .i64 c) := by rw [hc]; rfl
    rw [List.getElem?_take_of_lt (by omega)] at e
    simpa [Bk.cells] using e
  · by_cases hi : i < 32
    · rw [hlq i (by omega)]
      simp [Bk.cells, Bk.cs, show i < l.length by omega]
    · rw [List.getElem?_eq_none (by omega), List.getElem?_eq_none (by simp [Bk.cells, Bk.cs]; omega)]

/-- A slice of blocks, as it reads. -/
theorem bs_of {a : Option Addr} {len cap : Nat} {x : DataW H × List MemPlace} (h : DataW.trod enc Tryd.prog w base spare held fuel 22 [.slice a len cap] = some x) :
    ∃ bs : List Bk, bs.length = len ∧ bs.length ≤ 9223372036854775807 ∧ Bs w (.slice a len cap) bs := by
  rcases DataW.trod_slice Tryd.underlying22 h with ⟨hcs, _⟩ | ⟨ad, l, c, elems, rest, n, _, hcs, _, hb, hl, hm, hlen, hel, _, _⟩
  · simp at hcs
    obtain ⟨rfl, rfl, rfl⟩ := hcs
    exact ⟨[], rfl, by simp, ⟨(fun b hb => by cases hb), .inl ⟨rfl, _, _, rfl⟩⟩⟩
  · simp at hcs
    obtain ⟨rfl, rfl, rfl⟩ := hcs
    rw [cells30] at hel
    obtain ⟨bs, hbl, hbq⟩ := exists_list (Q := fun i (b : Bk) => b.Ok ∧ w.cells? base (ad.add (i * 33)) 33 = some (Bk.cells b)) len (fun i hi => by
      have h1 := hel i hi
      have hx : i < elems.length := by omega
      rw [List.getElem?_eq_getElem hx, Option.bind_eq_some_iff] at h1
      obtain ⟨cs, hcs, hy⟩ := h1
      obtain ⟨b, hok, rfl⟩ := bk_of hy
      exact ⟨b, hok, hcs⟩)
    have hok : ∀ b ∈ bs, b.Ok := fun b hb => by
      obtain ⟨i, hi, rfl⟩ := List.getElem_of_mem hb
      exact (hbq i hi).1
    have hmx : maxLen = 9223372036854775807 := rfl
    refine ⟨bs, hbl, by omega, hok, ?_⟩
    rcases Nat.eq_zero_or_pos bs.length with h0 | h0
    · obtain rfl := List.eq_nil_of_length_eq_zero h0
      simp at hbl
      subst hbl
      exact .inl ⟨rfl, _, _, rfl⟩
    · obtain ⟨g, off, spot⟩ := ad
      have hspot : spot = none := by
        have hc := World.cells?_some (hbq 0 h0).2
        have := hc.2.2 0 (by omega)
        rw [List.getElem?_eq_getElem (by have := (hbq 0 h0).1.cells; omega)] at this
        simpa [Addr.add] using World.cell?_spot this
      subst hspot
      refine .inr ⟨h0, g, off, cap, by rw [hbl], by omega, ?_⟩
      have hall : ∀ k, k ≤ bs.length → w.rangeAt g off (flat (bs.take k)) := by
        intro k
        induction k with
        | zero => intro _; simpa [flat] using rangeAt_nil w g off
        | succ k ih =>
          intro hk
          have hfl : (flat (bs.take k)).length = k * 33 := by
            rw [flat_length _ fun b hb => hok b (List.mem_of_mem_take hb)]; simp; omega
          rw [take_step bs k hk, flat_append, rangeAt_append, hfl]
          refine ⟨ih (by omega), fun j v hv => ?_⟩
          have hv' : (Bk.cells bs[k])[j]? = some v := by simpa [flat] using hv
          have hj : j < 33 := by
            have := (List.getElem?_eq_some_iff.1 hv').1
            rw [(hbq k hk).1.cells] at this
            exact this
          have := (World.cells?_some (hbq k hk).2).2.2 j hj
          rw [hv', Addr.add_mid, Addr.add_mid] at this
          exact this
      simpa using hall bs.length (Nat.le_refl _)
end

theorem gPow : Tryd.prog.globalNamed "internal/strconv.uint64pow10" = some 0 := by kernel_rfl
theorem pow_laid {H : Type} : (Rows.laid_internal_strconv_uint64pow10 : DataW H) = Lib.tabData .u64 Lib.pow10Tab := rfl
theorem tPow : (Tryd.prog.globals[0]?).map (·.type) = some 52 := by kernel_rfl
theorem uPow : Tryd.prog.underlying 52 = some (.array 20 27) := by kernel_rfl
theorem u27 : Tryd.prog.underlying 27 = some (.int .u64) := by kernel_rfl
theorem c27 : Tryd.prog.cellsOf 27 = 1 := by kernel_rfl
theorem c52 : Tryd.prog.cellsOf 52 = 20 := by kernel_rfl

/-- The list of the rows. -/
def laid3 : List (String × DataW Unit) := [("math/bits.deBruijn32tab", Rows.laid_math_bits_deBruijn32tab), ("math/bits.deBruijn64tab", Rows.laid_math_bits_deBruijn64tab), ("internal/strconv.uint64pow10", Rows.laid_internal_strconv_uint64pow10)]

/-- WHAT THE CONDITION GIVES THE WALKS: the table of the powers of ten. -/
theorem of_laid {W : World} (h : laidMetH Tryd.prog laid3 W) : Lib.TabBelow Tryd.prog W.heap.size W "internal/strconv.uint64pow10" .u64 Lib.pow10Tab := by
  rw [MakeChecks.laidMetH_plain _ _ _ (by kernel_rfl)] at h
  obtain ⟨ps, ⟨g0, t0, cs0, f0, p0, q0, hg0, ht0, hv0, hd0, ⟨g1, t1, cs1, f1, p1, q1, hg1, ht1, hv1, hd1, ⟨g2, t2, cs2, f2, p2, q2, hg2, ht2, hv2, hd2, _, _⟩, _⟩, _⟩, _, _⟩ := h
  obtain rfl := Option.some.inj (gPow.symm.trans hg2)
  obtain rfl := Option.some.inj (tPow.symm.trans ht2)
  refine Lib.tabBelow_of_tabIs ?_
  unfold Lib.TabIs
  rw [hv2, ← Lib.cells_of_tab uPow u27 c27 c52 (zs := Lib.pow10Tab) hd2]

theorem door_met (os : Os) (args : Array Value) : laidMetH Tryd.prog laid3 ((World.doorLaid Tryd.prog 400 os).forCall (fun _ _ => 0) ⟨#[], args, []⟩).memory :=
  laidMetH_of_parts3 (fuel := 8) (laidMet_of_run' 8 (by kernel_rfl) (by kernel_rfl)) (by kernel_rfl) (by kernel_rfl)
end Go.Proofs.Qxb6630671aDoor
