/-
  The walk of 'FormatBlocks': the text of a list of blocks.
-/
import Derived.Test.Qxb6630671aDoorApp
import Derived.Lib.ItoaLen
import Derived.Laws.BytesString
import Derived.Laws.IdiomStrings
import Derived.Laws.BytesArg
namespace Go.Proofs.Qxb6630671aDoor
open Go.RowKit
set_option linter.unusedVariables false
set_option linter.unusedSimpArgs false

/-- One entry; the text of a list with a separator ahead of each entry; the text. -/
def entry (b : Bk) : List UInt8 := Lib.itoa b.1 ++ ([32] ++ (sha ++ Lib.Hx.encode b.2))
def tx (bs : List Bk) : List UInt8 := bs.flatMap fun b => [44, 32] ++ entry b
def txt (bs : List Bk) : List UInt8 := (tx bs).drop 2

theorem tx_append (a b : List Bk) : tx (a ++ b) = tx a ++ tx b := by simp [tx]
theorem entry_length (b : Bk) (h : b.Ok) : (entry b).length = (Lib.itoa b.1).length + 72 := by
  simp only [entry, List.length_append, Lib.Hx.encode_length, h.1, sha, List.length_cons, List.length_nil]
theorem entry_le (b : Bk) (h : b.Ok) : (entry b).length ≤ 93 := by
  have := Lib.itoa_length_le b.1 h.2.1 h.2.2
  rw [entry_length b h]; omega
theorem tx_le (bs : List Bk) (h : ∀ b ∈ bs, b.Ok) : (tx bs).length ≤ bs.length * 95 := by
  induction bs with
  | nil => simp [tx]
  | cons b r ih =>
    have h1 := ih fun x hx => h x (by simp [hx])
    have h2 := entry_le b (h b (by simp))
    simp only [tx, List.flatMap_cons, List.length_append, List.length_cons, List.length_nil] at h1 ⊢
    omega
theorem tx_two (bs : List Bk) (h : 0 < bs.length) : 2 ≤ (tx bs).length := by
  obtain ⟨b, r, rfl⟩ := List.exists_cons_of_length_pos h
  simp [tx]
theorem txt_le (bs : List Bk) (h : ∀ b ∈ bs, b.Ok) : (txt bs).length ≤ bs.length * 95 := by
  have := tx_le bs h
  simp [txt]; omega
theorem txt_first (bs : List Bk) (h : 0 < bs.length) : txt (bs.take 1) = [] ++ entry bs[0] := by
  rw [take_step bs 0 h]
  simp [txt, tx]
theorem txt_step (bs : List Bk) (k : Nat) (hk : k < bs.length) (h0 : 0 < k) : txt (bs.take (k + 1)) = (txt (bs.take k) ++ [44, 32]) ++ entry bs[k] := by
  rw [take_step bs k hk]
  have := tx_two (bs.take k) (by simp; omega)
  unfold txt
  rw [tx_append, List.drop_append_of_le_length this]
  simp [tx]

/-- 'make([]byte, 0, n)'. -/
theorem make_line (n : Nat) (N : Int) (hN : N = n) (h : n ≤ 1099511627776) (w : World) : ∃ v w', (Instr.makeSlice 35 (.int .i64 0) (.int .i64 N)).run Tryd.prog w = .ok v w' ∧ Ow w.heap.size w' v [] ∧ Fr w.heap.size w w' := by
  subst hN
  obtain ⟨i, hi, hz, hs, hb⟩ := info5'
  obtain ⟨w', hr, ho, hg⟩ := run_make_own (P := Tryd.prog) w w.heap.size 35 5 i (.int .u8 0) 1 Tryd.underlying35 hi hz hs .i64 .i64 n (by rw [hb]; omega) (by unfold maxLen; omega) (Nat.le_refl _)
  exact ⟨_, w', hr, ⟨ho, hg.size⟩, ⟨hg.os, hg.tape, hg.output, hg.size, fun k hk => hg.block k hk (by simp)⟩, (Lib.OthersKept.refl _ _ _).grown hg fun g hg' => by cases hg'⟩

/-- Cells stored one behind the other into a row that is known whole. -/
theorem setCells_whole (g : Nat) (t : TypeId) : ∀ (vs pre : List Value) (o : Nat) (w : World) (cur : List Value), pre.length = o → w.heap[g]? = some (.cells (pre ++ cur).toArray t (0, 0)) → cur.length = vs.length →
    (w.setCells g o vs).heap[g]? = some (.cells (pre ++ vs).toArray t (0, 0)) ∧ (w.setCells g o vs).heap.size = w.heap.size ∧ ∀ k, k ≠ g → (w.setCells g o vs).heap[k]? = w.heap[k]?
  | [], pre, o, w, cur, _, hg, hl => by
    obtain rfl : cur = [] := List.eq_nil_of_length_eq_zero hl
    exact ⟨hg, rfl, fun _ _ => rfl⟩
  | v :: vs, pre, o, w, [], _, hg, hl => by simp at hl
  | v :: vs, pre, o, w, c :: cur, hp, hg, hl => by
    have hg' : (w.setCell ⟨g, o, none⟩ v).heap[g]? = some (.cells ((pre ++ [v]) ++ cur).toArray t (0, 0)) := by
      simp only [World.setCell, Array.getElem?_modify, hg, if_true, Option.map_some]
      subst hp
      simp
    obtain ⟨h1, h2, h3⟩ := setCells_whole g t vs (pre ++ [v]) (o + 1) (w.setCell ⟨g, o, none⟩ v) cur (by simp [hp]) hg' (by simpa using hl)
    refine ⟨by rw [World.setCells]; simpa using h1, by rw [World.setCells, h2]; simp [World.setCell], fun k hk => ?_⟩
    rw [World.setCells, h3 k hk]
    exact Below.heap_setCell _ _ _ _ hk

/-- A variable of a struct's or an array's type is laid, then written whole. -/
theorem laid_whole {B : Nat} (w : World) (hB : B ≤ w.heap.size) (T : TypeId) (hT : T ≠ 5) (Z : Array Value) (D : List Value) (hZ : Z.size = D.length) (hone : ∀ v ∈ D, v.oneCell' = true) :
    ∃ W, (storeCells ⟨w.heap.size, 0, none⟩ D).run Tryd.prog (w.alloc (.cells Z T)) = .ok () W ∧ W.heap[w.heap.size]? = some (.cells D.toArray T (0, 0)) ∧ Fr B w W ∧ W.heap.size = w.heap.size + 1 ∧ ∀ k, k < w.heap.size → W.heap[k]? = w.heap[k]? := by
  have hb := Go.heap_alloc_new w (.cells Z T)
  have hr := run_storeCells_cells (P := Tryd.prog) w.heap.size 0 D 0 (w.alloc (.cells Z T)) (fun j hj => by
      rw [cell_of_row _ w.heap.size (0 + 0 + j) Z T (0, 0) hb]
      have : j < Z.size := by omega
      simp [this]) (fun j hj => by unfold World.frozen?; simp only [hb]; simp) hone
  obtain ⟨h1, h2, h3⟩ := setCells_whole w.heap.size T D [] 0 (w.alloc (.cells Z T)) Z.toList rfl (by simpa using hb) (by simpa using hZ)
  have hold : ∀ k, k < w.heap.size → ((w.alloc (.cells Z T)).setCells w.heap.size 0 D).heap[k]? = w.heap[k]? := fun k hk => by
    rw [h3 k (by omega)]; exact Below.heap_alloc w _ k hk
  refine ⟨_, hr, h1, ⟨below_setCells hB _ _ _ ((Below.refl _ _).alloc hB _), fun k o hk _ _ => ?_⟩, by simpa using h2, hold⟩
  have hlt : k < w.heap.size := by
    rcases Nat.lt_or_ge k w.heap.size with h | h
    · exact h
    · rw [Array.getElem?_eq_none h] at hk; cases hk
  exact (hold k hlt).trans hk

theorem Ow.same {B : Nat} {w w' : World} {v : Value} {l : List UInt8} (h : Ow B w v l) (hs : w.heap.size ≤ w'.heap.size) (hb : ∀ k, k < w.heap.size → w'.heap[k]? = w.heap[k]?) : Ow B w' v l := by
  refine ⟨⟨h.1.1, ?_⟩, Nat.le_trans h.2 hs⟩
  rcases h.1.2 with hn | ⟨g, cap, cur, rfl, hg, hh, rest⟩
  · exact .inl hn
  · have hlt := (h.1.lt g rfl).2
    exact .inr ⟨g, cap, cur, rfl, hg, (hb g hlt).trans hh, rest⟩

theorem loadCells_at {w : World} {g o : Nat} {cs : List Value} {n : Nat} (hn : cs.length = n) (h : w.rangeAt g o cs) : (loadCells ⟨g, o, none⟩ n).run Tryd.prog w = .ok cs.toArray w := by
  subst hn
  exact run_loadCells_list (P := Tryd.prog) w ⟨g, o, none⟩ cs (fun j v hv => by rw [Addr.add_mid]; exact h j v hv)

attribute [-go_sem] loadCells loadCellsFrom storeCells

set_option maxRecDepth 10000 in
set_option maxHeartbeats 4000000 in
theorem fmt_any (w : World) (v : Value) (bs : List Bk) (hB : Bs w v bs) (hl : bs.length ≤ 1048576) (htab : Lib.TabBelow Tryd.prog w.heap.size w "internal/strconv.uint64pow10" .u64 Lib.pow10Tab) :
    Calls Tryd.prog 6 #[v] w fun e w' => ∃ s : ByteArray, e = .returned (.string s) ∧ s.data.toList = txt bs ∧ Below w.heap.size w w' := by
  have HB := hid hB
  have HT := hid htab
  obtain ⟨a, cap, rfl⟩ := hB.form
  clear hB htab
  obtain ⟨v0, w1, hmk, hO, hf⟩ := make_line (bs.length * 15 + bs.length * 2 * 32) ((bs.length : Int) * 15 + (bs.length : Int) * 2 * 32) (by omega) (by omega) w
  have HO := hid hO
  have HF := hid hf
  clear hO hf
  go_enter Tryd.func6, Tryd.ntmps6
  go_wp2_with fail
  go_loopg [3, 17] bs.length (fun g sl si wx => ∃ k : Nat, k ≤ bs.length ∧ g = bs.length - k ∧ si = .int .i64 k ∧ Ow w.heap.size wx sl (txt (bs.take k)) ∧ Fr w.heap.size w wx)
  case atStart => exact ⟨0, Nat.zero_le _, rfl, rfl, by simpa [txt, tx] using HO.out, HF.out⟩
  case round =>
    clear hmk HO HF
    obtain ⟨k, hk, rfl, rfl, hO, hf⟩ := hrel
    by_cases hlt : k < bs.length
    · obtain ⟨g, off, rfl, hc, hr0⟩ : ∃ g off, a = some ⟨g, off, none⟩ ∧ bs.length ≤ cap ∧ w.rangeAt g off (flat bs) := by
        rcases HB.out.2 with ⟨h, _⟩ | ⟨hp, g, off, c, e, hc, hr⟩
        · simp [h] at hlt
        · simp only [Value.slice.injEq] at e
          obtain ⟨rfl, _, rfl⟩ := e
          exact ⟨g, off, rfl, hc, hr⟩
      have hok : (bs[k]).Ok := HB.out.1 _ (List.getElem_mem hlt)
      obtain ⟨b, hbe⟩ : ∃ b, b = bs[k] := ⟨_, rfl⟩
      have hrD : w.rangeAt g (off + k * 33) (Bk.cells b) := by rw [hbe]; exact flat_part HB.out.1 hr0 k hlt
      rw [← hbe] at hok
      have hld := loadCells_at hok.cells (rangeAt_below hrD hf.1)
      have hsb := hf.1.size
      obtain ⟨W, hst, hbl, hfW, hzW, hsame⟩ := laid_whole (B := w.heap.size) wr hsb 36 (by decide) #[.int .i64 0, .int .u8 0, .int .u8 0, .int .u8 0, .int .u8 0, .int .u8 0, .int .u8 0, .int .u8 0, .int .u8 0, .int .u8 0, .int .u8 0, .int .u8 0, .int .u8 0, .int .u8 0, .int .u8 0, .int .u8 0, .int .u8 0, .int .u8 0, .int .u8 0, .int .u8 0, .int .u8 0, .int .u8 0, .int .u8 0, .int .u8 0, .int .u8 0, .int .u8 0, .int .u8 0, .int .u8 0, .int .u8 0, .int .u8 0, .int .u8 0, .int .u8 0, .int .u8 0] (Bk.cells b) (by rw [hok.cells]; rfl) (cells_one b)
      have HOW := hid (hO.same (by omega) hsame)
      have HFW := hid (hf.trans hfW)
      have HBL := hid hbl
      have HLE := hid (txt_le (bs.take k) fun x hx => HB.out.1 x (List.mem_of_mem_take hx))
      obtain ⟨D, hDe⟩ : ∃ D, D = Bk.cells b := ⟨_, rfl⟩
      rw [← hDe] at hld hst
      have hDl : D.length = 33 := by rw [hDe]; exact hok.cells
      have HD := hid hDe
      have HBE := hid hbe
      have HOK := hid hok
      have hk0 : (0 : Int) ≤ (k : Int) := by omega
      have hk1 : (k : Int) < (bs.length : Int) := by omega
      clear hbl hfW hsame hrD hr0 hO hf hDe hbe hok hzW hsb
      have hc0 : W.cell? ⟨wr.heap.size, 0, none⟩ = some (.int .i64 b.1) := by
        rw [cell_of_row W wr.heap.size 0 _ 36 (0, 0) HBL.out]; rfl
      by_cases hz : k = 0
      · subst hz
        simp only [Nat.zero_mul, Nat.add_zero] at hld
        have HLb : Hid ((txt (bs.take 0)).length ≤ 100000000) := by unfold Hid; simp [txt, tx]
        go_wp2_with fail
        refine (Tryd.strconv_AppendInt_10 w.heap.size _ b.1 HOK.out.2.1 HOK.out.2.2 u3 _ W HOW.out.1 HOW.out.2 (by have := HLb.out; omega) (HT.out.on HFW.out.1)).mono ?_
        rintro e w5 ⟨v5, rfl, ho5, hb5, hk5⟩
        have HO5 : Hid (Ow w.heap.size w5 v5 (txt (bs.take 0) ++ Lib.itoa b.1)) := ⟨by rw [List.length_append, bc_append]; exact ho5, Nat.le_trans HOW.out.2 hb5.size⟩
        have HF5 : Hid (Fr w.heap.size w w5) := HFW.out.trans ⟨hb5, hk5⟩
        have HB5 : Hid (w5.heap[wr.heap.size]? = some (.cells (Bk.cells b).toArray 36 (0, 0))) := hk5 _ _ HBL.out (by simp) (fun c fz e => by cases e)
        have HLi := hid (Lib.itoa_length_le b.1 HOK.out.2.1 HOK.out.2.2)
        clear ho5 hb5 hk5 hc0
        go_wp2_with (at_builtin; refine wpList_put HO5.out 32 32 rfl (by have := HLb.out; have := HLi.out; rw [List.length_append]; omega) rfl (.tmp 30) (.tmp 31) rfl rfl rfl ?_)
        intro v6 w6 hO6 hf6
        have hB6 : w6.heap[wr.heap.size]? = some (.cells (Bk.cells b).toArray 36 (0, 0)) := hf6.2 _ _ HB5.out (by simp) (fun c fz e => by cases e)
        have hld6 : (loadCells ⟨wr.heap.size, 1, none⟩ 32).run Tryd.prog w6 = .ok (Lib.byteCells b.2).toArray w6 := by
          refine loadCells_at (by simp [Lib.byteCells, HOK.out.1]) (rangeAt_cell (v := .int .i64 b.1) (o := 0) fun j u hj => ?_).2
          rw [cell_of_row w6 wr.heap.size (0 + j) _ 36 (0, 0) hB6]
          simp only [Nat.zero_add, List.getElem?_toArray]
          exact hj
        have HO6 := hid hO6
        have HF6 := hid (HF5.out.trans hf6)
        clear hB6 hO6 hf6
        go_wp2_with fail
        refine (sum_any w.heap.size v6 _ w6 HO6.out (by have h1 := HLb.out; have h2 := HLi.out; first | (simp only [List.length_append, List.length_cons, List.length_nil] at h1 ⊢; omega) | (simp [txt, tx]; omega)) b.2 HOK.out.1).mono ?_
        rintro e w7 ⟨v7, rfl, hO7, hf7⟩
        have Hrel : Hid (Ow w.heap.size w7 v7 (txt (bs.take (0 + 1))) ∧ Fr w.heap.size w w7) := by
          refine ⟨?_, HF6.out.trans hf7⟩
          rw [txt_first bs hlt, ← HBE.out, show ([] : List UInt8) = txt (bs.take 0) from rfl]
          simpa [entry, List.append_assoc] using hO7
        clear hO7 hf7 hld6
        go_wp2
        go_roundg (bs.length - (0 + 1))
        case measure => omega
        case rel => exact ⟨0 + 1, by omega, rfl, by go_num, Hrel.out⟩
      · have HLb : Hid ((txt (bs.take k) ++ [44, 32]).length ≤ 100000000) := by
          unfold Hid
          have := HLE.out
          simp at this ⊢
          omega
        go_wp2_with (at_builtin; refine wpList_apps HOW.out ⟨#[44, 32]⟩ [44, 32] rfl (by have := HLb.out; simp at this ⊢; omega) rfl (.tmp 24) (.const (.string ⟨#[44, 32]⟩)) rfl rfl rfl ?_)
        intro v4 W4 hO4 hf4
        have HO4 := hid hO4
        have HF4 := hid (HFW.out.trans hf4)
        have HB4 : Hid (W4.heap[wr.heap.size]? = some (.cells (Bk.cells b).toArray 36 (0, 0))) := hf4.2 _ _ HBL.out (by simp) (fun c fz e => by cases e)
        clear hO4 hf4 hc0
        have hc0 : W4.cell? ⟨wr.heap.size, 0, none⟩ = some (.int .i64 b.1) := by
          rw [cell_of_row W4 wr.heap.size 0 _ 36 (0, 0) HB4.out]; rfl
        go_wp2_with fail
        refine (Tryd.strconv_AppendInt_10 w.heap.size _ b.1 HOK.out.2.1 HOK.out.2.2 v4 _ W4 HO4.out.1 HO4.out.2 (by have := HLb.out; omega) (HT.out.on HF4.out.1)).mono ?_
        rintro e w5 ⟨v5, rfl, ho5, hb5, hk5⟩
        have HO5 : Hid (Ow w.heap.size w5 v5 ((txt (bs.take k) ++ [44, 32]) ++ Lib.itoa b.1)) := ⟨by rw [List.length_append, bc_append]; exact ho5, Nat.le_trans HO4.out.2 hb5.size⟩
        have HF5 : Hid (Fr w.heap.size w w5) := HF4.out.trans ⟨hb5, hk5⟩
        have HB5 : Hid (w5.heap[wr.heap.size]? = some (.cells (Bk.cells b).toArray 36 (0, 0))) := hk5 _ _ HB4.out (by simp) (fun c fz e => by cases e)
        have HLi := hid (Lib.itoa_length_le b.1 HOK.out.2.1 HOK.out.2.2)
        clear ho5 hb5 hk5 hc0
        go_wp2_with (at_builtin; refine wpList_put HO5.out 32 32 rfl (by have := HLb.out; have := HLi.out; rw [List.length_append]; omega) rfl (.tmp 30) (.tmp 31) rfl rfl rfl ?_)
        intro v6 w6 hO6 hf6
        have hB6 : w6.heap[wr.heap.size]? = some (.cells (Bk.cells b).toArray 36 (0, 0)) := hf6.2 _ _ HB5.out (by simp) (fun c fz e => by cases e)
        have hld6 : (loadCells ⟨wr.heap.size, 1, none⟩ 32).run Tryd.prog w6 = .ok (Lib.byteCells b.2).toArray w6 := by
          refine loadCells_at (by simp [Lib.byteCells, HOK.out.1]) (rangeAt_cell (v := .int .i64 b.1) (o := 0) fun j u hj => ?_).2
          rw [cell_of_row w6 wr.heap.size (0 + j) _ 36 (0, 0) hB6]
          simp only [Nat.zero_add, List.getElem?_toArray]
          exact hj
        have HO6 := hid hO6
        have HF6 := hid (HF5.out.trans hf6)
        clear hB6 hO6 hf6
        go_wp2_with fail
        refine (sum_any w.heap.size v6 _ w6 HO6.out (by have h1 := HLb.out; have h2 := HLi.out; first | (simp only [List.length_append, List.length_cons, List.length_nil] at h1 ⊢; omega) | (simp [txt, tx]; omega)) b.2 HOK.out.1).mono ?_
        rintro e w7 ⟨v7, rfl, hO7, hf7⟩
        have Hrel : Hid (Ow w.heap.size w7 v7 (txt (bs.take (k + 1))) ∧ Fr w.heap.size w w7) := by
          refine ⟨?_, HF6.out.trans hf7⟩
          rw [txt_step bs k hlt (by omega), ← HBE.out]
          simpa [entry, List.append_assoc] using hO7
        clear hO7 hf7 hld6
        go_wp2
        go_roundg (bs.length - (k + 1))
        case measure => omega
        case rel => exact ⟨k + 1, by omega, rfl, by go_num, Hrel.out⟩
    · obtain rfl : k = bs.length := by omega
      rw [List.take_length] at hO
      have hcv : ∃ s : ByteArray, s.data.toList = txt bs ∧ (convert 35 9 u3).run Tryd.prog wr = .ok (.string s) wr := by
        rcases hO.1.2 with ⟨rfl, h0⟩ | ⟨g, cap', cur, rfl, _⟩
        · have h0' : txt bs = [] := List.eq_nil_of_length_eq_zero h0
          exact ⟨ByteArray.empty, by rw [h0']; rfl, run_convert_bytes_nil wr 35 5 Tryd.underlying35 Tryd.underlying5 0 0 9 Tryd.underlying9⟩
        · refine ⟨⟨(txt bs).toArray⟩, by simp, run_convert_bytes_back (P := Tryd.prog) wr 35 9 5 ⟨g, 0, none⟩ cap' (txt bs) Tryd.underlying35 Tryd.underlying5 Tryd.underlying9 fun j hj => ?_⟩
          exact hO.1.cells (g := g) rfl j _ (by simp [Lib.byteCells, hj])
      obtain ⟨s, hs, hcv⟩ := hcv
      have Hf := hid hf
      clear hO hf
      go_wp2
      go_ret
      exact ⟨s, rfl, hs, Hf.out.1⟩
end Go.Proofs.Qxb6630671aDoor
