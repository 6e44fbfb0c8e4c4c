/-
  slices.Grow and hex.AppendEncode onto a buffer of one's own.
-/
import Derived.Test.Qxb6630671aDoorTo
import Derived.Test.Qxb6630671aDoorShelf
import Derived.Lib.BufferKept
namespace Go.Proofs.Qxb6630671aDoor
open Go.RowKit
set_option linter.unusedVariables false
set_option linter.unusedSimpArgs false

theorem grow_room (base : Option Addr) (l c : Nat) (w : World) (hlc : l ≤ c) (hc63 : c ≤ 9223372036854775807) (hroom : l + 64 ≤ c) :
    Calls Tryd.prog 18 #[.slice base l c, .int .i64 64] w fun e w' => e = .returned (.slice base l c) ∧ w' = w := Any8.slices_Grow_room Tryd.laysGrow base l c 64 w hlc hc63 (by omega) hroom

theorem grow_grow (i0 : TypeInfo) (z : Value) (hi0 : Tryd.prog.info? 5 = some i0) (hz0 : i0.zero = some z) (hs0 : 0 < i0.size)
    (base : Option Addr) (l c : Nat) (cs : List Value) (w : World) (hlc : l ≤ c) (hroom : c < l + 64) (hbig : (l + 64) * i0.bytes ≤ 140737488355328) (h63 : l + 64 ≤ 4611686018427387904)
    (hcl : cs.length = c * i0.size) (hnil : base = none → c = 0) (hcs : ∀ a, base = some a → ∀ j v, cs[j]? = some v → w.cell? (a.add j) = some v) :
    Calls Tryd.prog 18 #[.slice base l c, .int .i64 64] w fun e w' =>
      e = .returned (.slice (some ⟨w.heap.size, 0, none⟩) l (grownCap w (l + 64) c 5)) ∧
      w' = w.drew.alloc (.cells (cs.toArray ++ Builtin.zeroCells z.cells (l + 64 - c) ++ Builtin.zeroCells z.cells (grownCap w (l + 64) c 5 - (l + 64))) 5) :=
  Any8.slices_Grow_grow Tryd.laysGrow i0 z hi0 hz0 hs0 base l c 64 cs w hlc hroom hbig h63 hcl hnil hcs

/-- What lies below B is as it was; and so is every block that is no row of bytes. -/
def Fr (B : Nat) (w w' : World) : Prop := Below B w w' ∧ Lib.OthersKept 5 none w w'
theorem Fr.refl (B : Nat) (w : World) : Fr B w w := ⟨Below.refl _ _, Lib.OthersKept.refl _ _ _⟩
theorem Fr.trans {B : Nat} {a b c : World} (h : Fr B a b) (k : Fr B b c) : Fr B a c := ⟨h.1.trans k.1, h.2.trans k.2⟩
theorem Fr.drew {B : Nat} {a b : World} (h : Fr B a b) : Fr B a b.drew := ⟨h.1.drew, h.2.drew⟩
theorem Fr.alloc {B : Nat} {a b : World} (h : Fr B a b) (hB : B ≤ b.heap.size) (o : Obj) : Fr B a (b.alloc o) := ⟨h.1.alloc hB _, h.2.alloc _⟩

theorem info5 : (Tryd.prog.info? 5).map (fun i => (i.zero, i.size, i.bytes)) = some (some (.int .u8 0), 1, 1) := by kernel_rfl
theorem info5' : ∃ i, Tryd.prog.info? 5 = some i ∧ i.zero = some (.int .u8 0) ∧ i.size = 1 ∧ i.bytes = 1 := by
  have h := info5
  cases hi : Tryd.prog.info? 5 with
  | none => rw [hi] at h; cases h
  | some i =>
    rw [hi] at h
    simp at h
    exact ⟨i, rfl, h.1, h.2.1, h.2.2⟩

theorem grow_any (B n : Nat) (v : Value) (xs : List Value) (w : World) (hown : w.ownsRow B 5 1 v n xs) (hB : B ≤ w.heap.size) (hn : 0 < n) (hlim : n + 64 ≤ 1099511627776) :
    Calls Tryd.prog 18 #[v, .int .i64 64] w fun e w' => ∃ g cap cur, e = .returned (.slice (some ⟨g, 0, none⟩) n cap) ∧ B ≤ g ∧ w'.heap[g]? = some (.cells cur 5 (0, 0)) ∧ n + 64 ≤ cap ∧ cap ≤ maxLen ∧ cur.size = cap ∧ cur.toList.take n = xs ∧ Fr B w w' ∧ w.heap.size ≤ w'.heap.size := by
  obtain ⟨hxl, hv⟩ := hown
  have hmx : maxLen = 9223372036854775807 := rfl
  rcases hv with ⟨rfl, h0⟩ | ⟨g, cap, cur, rfl, hg, hheap, hnc, hcm, hcs, hct⟩
  · omega
  rw [Nat.mul_one] at hcs hct
  by_cases hroom : n + 64 ≤ cap
  · refine (grow_room (some ⟨g, 0, none⟩) n cap w hnc (by omega) hroom).mono ?_
    rintro e w' ⟨rfl, rfl⟩
    exact ⟨g, cap, cur, rfl, hg, hheap, hroom, hcm, hcs, hct, Fr.refl _ _, Nat.le_refl _⟩
  · obtain ⟨i, hi, hz, hs, hb⟩ := info5'
    refine (grow_grow i _ hi hz (by omega) (some ⟨g, 0, none⟩) n cap cur.toList w hnc (by omega) (by rw [hb]; omega) (by omega) (by rw [hs]; simp [hcs]) (fun e => by cases e) (fun a ha j u hj => ?_)).mono ?_
    · cases ha
      rw [Addr.add_mid, cell_of_row w g (0 + j) cur 5 (0, 0) hheap]
      simpa using hj
    · rintro e w' ⟨rfl, rfl⟩
      have h1 := grownCap_ge w (n + 64) cap 5
      have h2 := grownCap_le_maxLen w (n + 64) cap 5 (by omega)
      refine ⟨w.heap.size, _, _, rfl, hB, Go.heap_alloc_new w.drew _, h1, h2, ?_, ?_, ((Fr.refl B w).drew).alloc hB _, by simp⟩
      · simp only [Array.size_append, size_zeroCells, List.size_toArray, Array.length_toList, hcs, Value.cells]
        simp
        omega
      · simp only [Array.toList_append, List.append_assoc]
        rw [List.take_append_of_le_length (by simp; omega)]
        simpa using hct

set_option maxRecDepth 10000 in
set_option maxHeartbeats 1000000 in
theorem enc_any (B n : Nat) (v : Value) (xs : List Value) (w : World) (hown : w.ownsRow B 5 1 v n xs) (hB : B ≤ w.heap.size) (hn : 0 < n) (hlim : n + 64 ≤ 1099511627776)
    (S : Nat) (C : Array Value) (hS : w.heap[S]? = some (.cells C 28 (0, 0))) (l : List UInt8) (hl : l.length = 32) (hC : C.toList = Lib.byteCells l) :
    Calls Tryd.prog 15 #[v, .slice (some ⟨S, 0, none⟩) 32 32] w fun e w' => ∃ v', e = .returned v' ∧ w'.ownsRow B 5 1 v' (n + 64) (xs ++ Lib.byteCells (Lib.Hx.encode l)) ∧ Fr B w w' := by
  go_enter Tryd.func15, Tryd.ntmps15
  go_wp2_with fail
  refine (Tryd.hex_EncodedLen 32 (by omega) (by omega) _).mono ?_
  rintro e w' ⟨rfl, rfl⟩
  go_wp2_with fail
  refine (grow_any B n v xs _ hown hB hn hlim).mono ?_
  rintro e w1 ⟨g, cap, cur, rfl, hg, hheap, hcap, hcm, hcs, hct, hfr, hsz⟩
  have hmx : cap ≤ 9223372036854775807 := hcm
  have Hhp := hid hheap
  have Hct := hid hct
  have Hfr := hid hfr
  have Hown := hid hown
  have HS := hid hS
  clear hheap hct hfr hown hS hcm
  go_wp2_with fail
  have hgS : g ≠ S := by
    rintro rfl
    have h1 := Hfr.out.2 g _ HS.out (by simp) (fun c fz e => by cases e)
    rw [Hhp.out] at h1
    cases h1
  have hS1 : w1.heap[S]? = some (.cells C 28 (0, 0)) := Hfr.out.2 S _ HS.out (by simp) (fun c fz e => by cases e)
  have hrow : w1.rowIs g 5 cap (fun j => cur[j]?.getD undef) := ⟨cur, Hhp.out, hcs, fun j hj => by simp [show j < cur.size by omega]⟩
  refine (Tryd.hex_Encode_tag 5 g n 64 (cap - n) cap (fun j => cur[j]?.getD undef) S 0 32 32 (l.map fun b => (b.toNat : Int)) w1 (by simpa using hl) (fun j hj => ?_) (fun j hj => ?_) hrow (by omega) (by omega) hgS (by omega)).mono ?_
  · have hj' : j < l.length := by omega
    have := UInt8.toNat_lt l[j]
    simp [List.getD, hj']
    omega
  · have hj' : j < l.length := by omega
    rw [cell_of_row w1 S (0 + j) C 28 (0, 0) hS1, ← Array.getElem?_toList, hC]
    simp [Lib.byteCells, List.getD, hj']
  · rintro e w2 ⟨rfl, hrow2, hgr⟩
    have Hrow2 := hid hrow2
    have Hgr := hid hgr
    clear hrow hrow2 hgr hS1
    go_wp2
    go_ret
    have hle : (Lib.Hx.encode l).length = 64 := by rw [Lib.Hx.encode_length]; omega
    have hxl : xs.length = n := by have := Hown.out.1; omega
    have hbo : Lib.bytesOf (l.map fun b => (b.toNat : Int)) = l := by
      simp only [Lib.bytesOf, List.map_map]
      refine (List.map_congr_left fun b _ => ?_).trans (List.map_id l)
      simp
    refine ⟨.slice (some ⟨g, 0, none⟩) (n + 64) cap, rfl, ⟨by simp [Lib.byteCells, hle, hxl], .inr ?_⟩, Hfr.out.trans ⟨?_, ?_⟩⟩
    · obtain ⟨c2, hc2, hs2, hcell2⟩ := Hrow2.out
      refine ⟨g, cap, c2, rfl, hg, hc2, hcap, hmx, by omega, ?_⟩
      rw [Nat.mul_one]
      apply List.ext_getElem?
      intro j
      by_cases hj : j < n + 64
      · rw [List.getElem?_take_of_lt hj, Array.getElem?_toList, hcell2 j (by omega)]
        unfold Lib.Hx.row
        by_cases hjn : j < n
        · rw [if_neg (by omega), List.getElem?_append_left (by omega), ← Hct.out, List.getElem?_take_of_lt hjn, Array.getElem?_toList]
          simp [show j < cur.size by omega]
        · rw [if_pos (by omega), hbo, List.getElem?_append_right (by omega), hxl]
          have hj2 : j - n < (Lib.Hx.encode l).length := by omega
          simp [Lib.byteCells, hj2]
      · rw [List.getElem?_eq_none (by simp; omega), List.getElem?_eq_none (by simp [Lib.byteCells, hle]; omega)]
    · exact ⟨Hgr.out.os, Hgr.out.tape, Hgr.out.output, Hgr.out.size, fun k hk => Hgr.out.block k (Nat.lt_of_lt_of_le hk (Nat.le_trans hB hsz)) (by simp; omega)⟩
    · intro k o hk _ hne
      by_cases hkg : k = g
      · subst hkg
        rw [Hhp.out] at hk
        cases hk
        exact absurd rfl (hne _ _)
      · have hlt : k < w1.heap.size := by
          rcases Nat.lt_or_ge k w1.heap.size with h | h
          · exact h
          · rw [Array.getElem?_eq_none h] at hk; cases hk
        rw [Hgr.out.block k hlt (by simp; exact hkg)]
        exact hk
end Go.Proofs.Qxb6630671aDoor
