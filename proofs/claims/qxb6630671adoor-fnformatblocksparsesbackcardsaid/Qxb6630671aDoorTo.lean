/-
  Slices of blocks that are read; the walk of 'zzToBlocks'.
-/
import Derived.Test.Qxb6630671aDoorBk
import Derived.Laws.MakeOwn
import Derived.Laws.IdiomCopy
import Derived.Lib.SliceRun
import Derived.Deep.LoopGhost
import Derived.Deep.RegionHeld3
import Derived.Deep.OwnRows
import Derived.Below
namespace Go.Proofs.Qxb6630671aDoor
open Go.RowKit
set_option linter.unusedVariables false
set_option linter.unusedSimpArgs false

theorem hid {p : Prop} (h : p) : Hid p := h

abbrev Bk := Int × List UInt8
def Bk.cs (b : Bk) : List Value := b.2.map fun x => .int .u8 (x.toNat : Int)
def Bk.cells (b : Bk) : List Value := .int .i64 b.1 :: Bk.cs b
def Bk.Ok (b : Bk) : Prop := b.2.length = 32 ∧ -9223372036854775808 ≤ b.1 ∧ b.1 ≤ 9223372036854775807
def flat (bs : List Bk) : List Value := bs.flatMap Bk.cells

theorem Bk.Ok.cs {b : Bk} (h : b.Ok) : (Bk.cs b).length = 32 := by simp [Bk.cs, h.1]
theorem Bk.Ok.cells {b : Bk} (h : b.Ok) : (Bk.cells b).length = 33 := by simp [Bk.cells, h.cs]
theorem cs_one (b : Bk) : ∀ v ∈ Bk.cs b, v.oneCell' = true := by
  intro v hv
  simp only [Bk.cs, List.mem_map] at hv
  obtain ⟨x, _, rfl⟩ := hv
  rfl
theorem cells_one (b : Bk) : ∀ v ∈ Bk.cells b, v.oneCell' = true := by
  intro v hv
  rcases List.mem_cons.1 hv with rfl | hv
  · rfl
  · exact cs_one b v hv
theorem flat_one (bs : List Bk) : ∀ v ∈ flat bs, v.oneCell' = true := by
  intro v hv
  obtain ⟨b, _, hv⟩ := List.mem_flatMap.1 hv
  exact cells_one b v hv
theorem flat_append (a b : List Bk) : flat (a ++ b) = flat a ++ flat b := by simp [flat]
theorem flat_length (bs : List Bk) (h : ∀ b ∈ bs, b.Ok) : (flat bs).length = bs.length * 33 := by
  induction bs with
  | nil => rfl
  | cons b r ih =>
    have := ih fun x hx => h x (by simp [hx])
    have hb := (h b (by simp)).cells
    simp only [flat, List.flatMap_cons, List.length_append, List.length_cons] at this ⊢
    omega

theorem rangeAt_append {w : World} {g o : Nat} {a b : List Value} : w.rangeAt g o (a ++ b) ↔ w.rangeAt g o a ∧ w.rangeAt g (o + a.length) b := by
  constructor
  · intro h
    refine ⟨fun j v hv => h j v ?_, fun j v hv => ?_⟩
    · rw [List.getElem?_append_left (List.getElem?_eq_some_iff.1 hv).1]; exact hv
    · rw [Nat.add_assoc]
      refine h (a.length + j) v ?_
      rw [List.getElem?_append_right (by omega), Nat.add_sub_cancel_left]; exact hv
  · rintro ⟨h1, h2⟩ j v hv
    by_cases hj : j < a.length
    · rw [List.getElem?_append_left hj] at hv; exact h1 j v hv
    · rw [List.getElem?_append_right (by omega)] at hv
      have := h2 _ _ hv
      rwa [show o + a.length + (j - a.length) = o + j by omega] at this

theorem rangeAt_nil (w : World) (g o : Nat) : w.rangeAt g o [] := fun j v hv => by simp at hv

theorem take_step (bs : List Bk) (k : Nat) (hk : k < bs.length) : bs.take (k + 1) = bs.take k ++ [bs[k]] := by rw [List.take_add_one]; simp [hk]

theorem flat_part {w : World} {g off : Nat} {bs : List Bk} (hok : ∀ b ∈ bs, b.Ok) (h : w.rangeAt g off (flat bs)) (k : Nat) (hk : k < bs.length) : w.rangeAt g (off + k * 33) (Bk.cells bs[k]) := by
  have e : bs = bs.take k ++ ([bs[k]] ++ bs.drop (k + 1)) := by
    rw [← List.append_assoc, ← take_step bs k hk, List.take_append_drop]
  have h' : w.rangeAt g off (flat (bs.take k ++ ([bs[k]] ++ bs.drop (k + 1)))) := by rw [← e]; exact h
  rw [flat_append, flat_append, rangeAt_append, rangeAt_append] at h'
  have hl : (flat (bs.take k)).length = k * 33 := by
    rw [flat_length _ fun b hb => hok b (List.mem_of_mem_take hb)]; simp; omega
  rw [hl] at h'
  simpa [flat] using h'.2.1

theorem rangeAt_cell {w : World} {g o : Nat} {v : Value} {l : List Value} (h : w.rangeAt g o (v :: l)) : w.cell? ⟨g, o, none⟩ = some v ∧ w.rangeAt g (o + 1) l := by
  refine ⟨by simpa using h 0 v rfl, fun j u hu => ?_⟩
  have := h (j + 1) u (by simpa using hu)
  rwa [show o + (j + 1) = o + 1 + j by omega] at this

theorem rangeAt_below {w w' : World} {g o : Nat} {cs : List Value} (h : w.rangeAt g o cs) (hb : Below w.heap.size w w') : w'.rangeAt g o cs := fun j v hv => by
  have h1 := h j v hv
  exact (hb.cell (p := ⟨g, o + j, none⟩) (World.block_lt_of_cell? w ⟨g, o + j, none⟩ h1)).trans h1

/-- v is a slice that reads as the blocks bs. -/
def Bs (w : World) (v : Value) (bs : List Bk) : Prop :=
  (∀ b ∈ bs, b.Ok) ∧ ((bs = [] ∧ ∃ a cap, v = .slice a 0 cap) ∨ (0 < bs.length ∧ ∃ g off cap, v = .slice (some ⟨g, off, none⟩) bs.length cap ∧ bs.length ≤ cap ∧ w.rangeAt g off (flat bs)))

theorem Bs.form {w : World} {v : Value} {bs : List Bk} (h : Bs w v bs) : ∃ a cap, v = .slice a bs.length cap := by
  rcases h.2 with ⟨rfl, a, cap, rfl⟩ | ⟨_, g, off, cap, rfl, _⟩
  · exact ⟨a, cap, rfl⟩
  · exact ⟨_, cap, rfl⟩
theorem Bs.below {w w' : World} {v : Value} {bs : List Bk} (h : Bs w v bs) (hb : Below w.heap.size w w') : Bs w' v bs := by
  refine ⟨h.1, ?_⟩
  rcases h.2 with h2 | ⟨hp, g, off, cap, rfl, hc, hr⟩
  · exact .inl h2
  · exact .inr ⟨hp, g, off, cap, rfl, hc, rangeAt_below hr hb⟩

theorem info36 : (Tryd.prog.info? 36).map (fun i => (i.size, i.bytes)) = some (33, 40) := by kernel_rfl
theorem zero36 : ∃ i z, Tryd.prog.info? 36 = some i ∧ i.zero = some z ∧ i.size = 33 ∧ i.bytes = 40 := by
  have h : ((Tryd.prog.info? 36).bind (·.zero)).isSome = true := by kernel_rfl
  cases hi : Tryd.prog.info? 36 with
  | none => rw [hi] at h; cases h
  | some i =>
    rw [hi] at h
    obtain ⟨z, hz⟩ := Option.isSome_iff_exists.1 h
    have h2 := info36
    rw [hi] at h2
    simp at h2
    exact ⟨i, z, rfl, hz, h2.1, h2.2⟩

/-- 'make([]Block, n)': n * 33 cells that may be written. -/
theorem make_blocks (n : Nat) (N : Int) (hN : N = n) (h : n ≤ 1048576) (w : World) : ∃ w', (Instr.makeSlice 25 (.int .i64 N) (.int .i64 N)).run Tryd.prog w = .ok (.slice (some ⟨w.heap.size, 0, none⟩) n n) w' ∧ Below w.heap.size w w' ∧ w'.heap.size = w.heap.size + 1 ∧ w'.there w.heap.size 0 (n * 33) := by
  subst hN
  obtain ⟨i, z, hi, hz, hs, hb⟩ := zero36
  have hr := run_make (P := Tryd.prog) w 25 36 i _ Tryd.underlying25 hi hz .i64 .i64 n n (by omega) (Int.le_refl _) (by rw [hb]; omega) (by omega)
  rw [Int.toNat_natCast, hs] at hr
  refine ⟨_, hr, (Below.refl _ _).alloc (Nat.le_refl _) _, by simp, fun j hj => ?_⟩
  have hb := Go.heap_alloc_new w (.cells (madeCells z.cells (n * 33)) 36)
  constructor
  · rw [cell_of_row _ w.heap.size (0 + j) _ 36 (0, 0) hb]
    have : j < (madeCells z.cells (n * 33)).size := by rw [size_madeCells]; omega
    simp [this]
  · unfold World.frozen?
    simp only [hb]
    simp

theorem below_setCells {B : Nat} {a : World} {b : Nat} (hb : B ≤ b) : ∀ (vs : List Value) (o : Nat) (w : World), Below B a w → Below B a (w.setCells b o vs)
  | [], _, _, h => h
  | v :: r, o, w, h => below_setCells hb r (o + 1) _ (h.setCell hb _)

attribute [-go_sem] Instr.build

set_option maxRecDepth 10000 in
set_option maxHeartbeats 2000000 in
theorem toBlocks_any (w : World) (v : Value) (bs : List Bk) (hB : Bs w v bs) (hl : bs.length ≤ 1048576) :
    Calls Tryd.prog 7 #[v] w fun e w' => ∃ v', e = .returned v' ∧ Bs w' v' bs ∧ Below w.heap.size w w' := by
  have HB := hid hB
  obtain ⟨a, cap, rfl⟩ := hB.form
  clear hB
  rcases a with _ | x
  · have hnil := fun wx => Lib.run_eql_slice_nil (P := Tryd.prog) wx 22 30 none bs.length cap 0 0 Tryd.underlying22
    go_enter Tryd.func7, Tryd.ntmps7
    go_wp2
    go_ret
    obtain rfl : bs = [] := by
      rcases HB.out.2 with ⟨h, _⟩ | ⟨hp, g, off, c, e, _⟩
      · exact h
      · cases e
    exact ⟨_, rfl, ⟨HB.out.1, .inl ⟨rfl, _, _, rfl⟩⟩, Below.refl _ _⟩
  · have hnil := fun wx => Lib.run_eql_slice_nil (P := Tryd.prog) wx 22 30 (some x) bs.length cap 0 0 Tryd.underlying22
    obtain ⟨w1, hmk, hb1, hz1, ht1⟩ := make_blocks bs.length (bs.length : Int) rfl hl w
    have Hb1 := hid hb1
    have Ht1 := hid ht1
    have Hz1 := hid hz1
    clear hb1 ht1 hz1
    go_enter Tryd.func7, Tryd.ntmps7
    go_wp2_with fail
    go_loopg [4] bs.length (fun g si wx => ∃ k : Nat, k ≤ bs.length ∧ g = bs.length - k ∧ si = .int .i64 k ∧ wx.rangeAt w.heap.size 0 (flat (bs.take k)) ∧ wx.there w.heap.size 0 (bs.length * 33) ∧ Below w.heap.size w wx)
    case atStart => exact ⟨0, Nat.zero_le _, rfl, rfl, by simpa [flat] using rangeAt_nil _ _ _, Ht1.out, Hb1.out⟩
    case round =>
      clear hmk hnil Hb1 Ht1 Hz1
      obtain ⟨k, hk, rfl, rfl, hrg, hth, hbl⟩ := hrel
      by_cases hlt : k < bs.length
      · obtain ⟨g, off, rfl, hc, hr0⟩ : ∃ g off, x = ⟨g, off, none⟩ ∧ bs.length ≤ cap ∧ w.rangeAt g off (flat bs) := by
          rcases HB.out.2 with ⟨h, _⟩ | ⟨hp, g, off, c, e, hc, hr⟩
          · simp [h] at hlt
          · simp only [Value.slice.injEq, Option.some.injEq] at e
            obtain ⟨rfl, _, rfl⟩ := e
            exact ⟨g, off, rfl, hc, hr⟩
        have hok : (bs[k]).Ok := HB.out.1 _ (List.getElem_mem hlt)
        obtain ⟨hL0, hS0⟩ := rangeAt_cell (flat_part HB.out.1 hr0 k hlt)
        obtain ⟨L, hLe⟩ : ∃ L, L = bs[k].1 := ⟨_, rfl⟩
        obtain ⟨cs, hcse⟩ : ∃ cs, cs = Bk.cs bs[k] := ⟨_, rfl⟩
        rw [← hLe] at hL0
        rw [← hcse] at hS0
        have hcl : cs.length = 32 := by rw [hcse]; exact hok.cs
        have hone : ∀ v ∈ cs, v.oneCell' = true := by rw [hcse]; exact cs_one _
        have hL : wr.cell? ⟨g, off + k * 33, none⟩ = some (.int .i64 L) := (hbl.cell (p := ⟨g, off + k * 33, none⟩) (World.block_lt_of_cell? w ⟨g, off + k * 33, none⟩ hL0)).trans hL0
        have hS : wr.rangeAt g (off + k * 33 + 1) cs := rangeAt_below hS0 hbl
        have hT : wr.there w.heap.size (k * 33) 33 := fun j hj => by
          have := hth (k * 33 + j) (by omega)
          simpa using this
        have hgM : g < w.heap.size := World.block_lt_of_cell? w ⟨g, off + k * 33, none⟩ hL0
        have hk0 : (0 : Int) ≤ (k : Int) := by omega
        have hk1 : (k : Int) < (bs.length : Int) := by omega
        have hu := Tryd.underlying28
        have hi : (Tryd.prog.info? 28).map (·.size) = some cs.length := by rw [size28, hcl]
        obtain ⟨D, hDe⟩ : ∃ D, D = Bk.cells bs[k] := ⟨_, rfl⟩
        have hDl : D.length = 33 := by rw [hDe]; exact hok.cells
        have hDc : D = Value.int .i64 L :: cs := by rw [hDe, hLe, hcse]; rfl
        have hu2 := Tryd.underlying36
        have hi2 : (Tryd.prog.info? 36).map (·.size) = some D.length := by rw [size36, hDl]
        have hbd : ∀ wx, (Instr.build 36 #[(0, .int .i64 L), (1, .agg cs.toArray)]).run Tryd.prog wx = .ok (.agg D.toArray) wx := fun wx => by
          rw [hDc]; exact run_build (P := Tryd.prog) wx 36 _ _ (built36 L cs hcl)
        have hone2 : ∀ v ∈ D, v.oneCell' = true := by rw [hDe]; exact cells_one _
        have HD := hid hDe
        clear hLe hcse hDe hDc
        have hsc : ∀ wx : World, wx.there w.heap.size (k * 33) 33 → (storeCells ⟨w.heap.size, k * 33, none⟩ D).run Tryd.prog wx = .ok () (wx.setCells w.heap.size (k * 33) D) := fun wx ht => by
          have := run_storeCells_cells (P := Tryd.prog) w.heap.size (k * 33) D 0 wx (fun j hj => (ht j (by omega)).1) (fun j hj => (ht j (by omega)).2) hone2
          simpa using this
        have Hrg := hid hrg
        have Hth := hid hth
        have Hbl := hid hbl
        clear hrg hth hbl hr0 hL0 hS0
        go_wp2_with fail
        go_region_held3 (fun w' => w'.cell? ⟨g, off + k * 33, none⟩ = some (.int .i64 L) ∧ w'.rangeAt g (off + k * 33 + 1) cs ∧ w'.there w.heap.size (k * 33) 33) (first | go_keep_ranges | (refine ⟨?_, ?_, ?_⟩; (rw [World.cell?_setCells_out w.heap.size D (k * 33) _ ⟨g, off + k * 33, none⟩ (fun e _ => absurd e (Nat.ne_of_lt hgM))]; simpa using hL); (exact World.rangeAt_setCells_apart (by simpa using hS) _ _ _ (Or.inl (Nat.ne_of_lt hgM))); (exact World.there_setCells (by simpa using hT) _ _ _))) (fail)
        have Hrel : Hid ((wr.drew.setCells w.heap.size (k * 33) D).rangeAt w.heap.size 0 (flat (bs.take (k + 1))) ∧ (wr.drew.setCells w.heap.size (k * 33) D).there w.heap.size 0 (bs.length * 33) ∧ Below w.heap.size w (wr.drew.setCells w.heap.size (k * 33) D)) := by
          have hfl : (flat (bs.take k)).length = k * 33 := by
            rw [flat_length _ fun b hb => HB.out.1 b (List.mem_of_mem_take hb)]; simp; omega
          refine ⟨?_, World.there_setCells (by simpa using Hth.out) _ _ _, below_setCells (Nat.le_refl _) _ _ _ Hbl.out.drew⟩
          rw [take_step bs k hlt, flat_append, rangeAt_append, hfl]
          refine ⟨World.rangeAt_setCells_apart (by simpa using Hrg.out) _ _ _ (Or.inr (Or.inl (by omega))), ?_⟩
          have := World.rangeAt_setCells_same wr.drew w.heap.size (k * 33) D (by rw [hDl]; simpa using hT)
          simpa [flat, ← HD.out] using this
        clear hsc hbd hL hS hT hi hi2 hu hu2 hone hone2 Hrg Hth Hbl
        go_wp2
        go_roundg (bs.length - (k + 1))
        case measure => omega
        case rel => exact ⟨k + 1, by omega, rfl, by go_num, Hrel.out⟩
      · go_wp2
        go_ret
        obtain rfl : k = bs.length := by omega
        rw [List.take_length] at hrg
        refine ⟨_, rfl, ⟨HB.out.1, ?_⟩, hbl⟩
        rcases Nat.eq_zero_or_pos bs.length with h0 | h0
        · obtain rfl := List.length_eq_zero_iff.1 h0
          exact .inl ⟨rfl, _, _, rfl⟩
        · exact .inr ⟨h0, _, _, _, rfl, Nat.le_refl _, hrg⟩
end Go.Proofs.Qxb6630671aDoor
