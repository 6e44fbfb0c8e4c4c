/-
  Slices of strings that are read; the two rows that the laws make; the bounds on length.
-/
import Derived.Test.Qxb6630723aGet
import Derived.Deep.OwnRows
namespace Go.Proofs.Qxb6630723a
open Go.RowKit
set_option linter.unusedVariables false
set_option linter.unusedSimpArgs false

/-- v is a slice that reads as the strings ks. -/
def Rs (w : World) (v : Value) (ks : List ByteArray) : Prop :=
  (ks = [] ∧ ∃ a cap, v = .slice a 0 cap) ∨
  (0 < ks.length ∧ ∃ b off cap, v = .slice (some ⟨b, off, none⟩) ks.length cap ∧ ks.length ≤ cap ∧ ∀ j (h : j < ks.length), w.cell? ⟨b, off + j, none⟩ = some (.string ks[j]))

theorem Rs.form {w : World} {v : Value} {ks : List ByteArray} (h : Rs w v ks) : ∃ a cap, v = .slice a ks.length cap := by
  rcases h with ⟨rfl, a, cap, rfl⟩ | ⟨hp, b, off, cap, rfl, _⟩
  · exact ⟨a, cap, rfl⟩
  · exact ⟨_, cap, rfl⟩

def BPost (w : World) (ks : List ByteArray) (key : ByteArray) (e : Ending) (w' : World) : Prop := ∃ r : Bool, e = .returned (.bool r) ∧ w' = w ∧ (r = true → ks.length ≤ 1048576 ∧ key.size ≤ 1048576 ∧ ∀ j (h : j < ks.length), ks[j].size ≤ 1048576)
theorem bp_mk {w : World} {ks : List ByteArray} {key : ByteArray} (r : Bool) (h : r = true → ks.length ≤ 1048576 ∧ key.size ≤ 1048576 ∧ ∀ j (h : j < ks.length), ks[j].size ≤ 1048576) : BPost w ks key (.returned (.bool r)) w := ⟨r, rfl, rfl, h⟩
def BPost2 (w : World) (ks : List ByteArray) (key probe : ByteArray) (e : Ending) (w' : World) : Prop := ∃ r : Bool, e = .returned (.bool r) ∧ w' = w ∧ (r = true → ks.length ≤ 1048576 ∧ key.size ≤ 1048576 ∧ probe.size ≤ 1048576 ∧ ∀ j (h : j < ks.length), ks[j].size ≤ 1048576)
theorem bp2_mk {w : World} {ks : List ByteArray} {key probe : ByteArray} (r : Bool) (h : r = true → ks.length ≤ 1048576 ∧ key.size ≤ 1048576 ∧ probe.size ≤ 1048576 ∧ ∀ j (h : j < ks.length), ks[j].size ≤ 1048576) : BPost2 w ks key probe (.returned (.bool r)) w := ⟨r, rfl, rfl, h⟩

set_option maxRecDepth 10000 in
set_option maxHeartbeats 400000 in
theorem bytesS_any (kind : Int) (v : Value) (ks : List ByteArray) (cut : Int) (key : ByteArray) (w : World) (hR : Rs w v ks) (hl : ks.length ≤ 9223372036854775807) (hz : ∀ j (h : j < ks.length), ks[j].size ≤ 9223372036854775807) (hkey : key.size ≤ 9223372036854775807) :
    Calls Try.prog 5 #[.int .u8 kind, v, .int .i64 cut, .string key] w fun e w' => BPost w ks key e w' := by
  obtain ⟨a, cap, rfl⟩ := hR.form
  by_cases hA : 1048576 < ks.length
  · go_enter Try.func5, Try.ntmps5
    go_wp2
    go_ret
    exact bp_mk false (fun h => by cases h)
  have Hz : Hid (∀ j (h : j < ks.length), ks[j].size ≤ 9223372036854775807) := hz
  clear hz
  have HC : Hid (∀ j (h : j < ks.length), ∃ b off, a = some ⟨b, off, none⟩ ∧ ks.length ≤ cap ∧ w.cell? ⟨b, off + j, none⟩ = some (.string ks[j])) := by
    intro j hj
    rcases hR with ⟨rfl, _⟩ | ⟨hp, b, off, cap', e, hc, hcell⟩
    · simp at hj
    · simp only [Value.slice.injEq] at e
      obtain ⟨rfl, _, rfl⟩ := e
      exact ⟨b, off, rfl, hc, hcell j hj⟩
  clear hR
  go_enter Try.func5, Try.ntmps5
  go_wp2
  go_loopg [9, 10] ks.length (fun g sn si wx => w = wx ∧ ∃ (k : Nat) (z : Int), k ≤ ks.length ∧ g = ks.length - k ∧ si = .int .i64 k ∧ sn = .int .i64 z ∧ 0 ≤ z ∧ z ≤ 1048576 ∧ ∀ j (h : j < ks.length), j < k → ks[j].size ≤ 1048576)
  case atStart => exact ⟨rfl, 0, _, Nat.zero_le _, rfl, rfl, rfl, by omega, by omega, fun j _ h => by omega⟩
  case round =>
    obtain ⟨rfl, k, z, hk, rfl, rfl, rfl, z1, z2, hall⟩ := hrel
    have Hall : Hid (∀ j (h : j < ks.length), j < k → ks[j].size ≤ 1048576) := hall
    clear hall
    by_cases hlt : k < ks.length
    · obtain ⟨b, off, rfl, hc, hcell⟩ := HC.out k hlt
      have hsz := Hz.out k hlt
      by_cases hbig : 1048576 < ks[k].size
      · go_wp2
        go_ret
        exact bp_mk false (fun h => by cases h)
      by_cases hsum : 1048576 < z + ks[k].size
      · go_wp2
        go_ret
        exact bp_mk false (fun h => by cases h)
      · go_wp2
        go_roundg (ks.length - (k + 1))
        case measure => omega
        case rel =>
          refine ⟨rfl, k + 1, _, by omega, rfl, by go_num, rfl, by omega, by omega, fun j hj hjk => ?_⟩
          by_cases e : j = k
          · subst e; omega
          · exact Hall.out j hj (by omega)
    · have Hall2 : Hid (∀ j (h : j < ks.length), ks[j].size ≤ 1048576) := fun j hj => Hall.out j hj (by omega)
      clear Hall
      go_wp2
      all_goals go_ret
      all_goals first
        | exact bp_mk false (fun h => by cases h)
        | exact bp_mk true (fun _ => ⟨by omega, by omega, Hall2.out⟩)

theorem info32 : (Try.prog.info? 32).map (fun i => (i.zero, i.size, i.bytes)) = some (some (.agg #[.string ⟨#[]⟩, .pointer none]), 2, 24) := by kernel_rfl
theorem info30 : (Try.prog.info? 30).map (fun i => (i.zero, i.size, i.bytes)) = some (some (.agg #[.int .u8 0, .string ⟨#[]⟩, .slice none 0 0, .slice none 0 0]), 4, 72) := by kernel_rfl

/-- 'make([]Node, n)': what it holds is not looked at. -/
theorem make_nodes (n : Nat) (N : Int) (hN : N = n) (h : n ≤ 1048577) (w : World) : ∃ w', (Instr.makeSlice 24 (.int .i64 N) (.int .i64 N)).run Try.prog w = .ok (.slice (some ⟨w.heap.size, 0, none⟩) n n) w' ∧ Below w.heap.size w w' ∧ w'.heap.size = w.heap.size + 1 := by
  subst hN
  obtain ⟨i, hi, hz, hs, hb⟩ := info_parts info30
  have hr := run_make (P := Try.prog) w 24 30 i _ Try.underlying24 hi hz .i64 .i64 n n (by omega) (Int.le_refl _) (by rw [hb]; omega) (by omega)
  rw [Int.toNat_natCast] at hr
  exact ⟨_, hr, (Below.refl _ _).alloc (Nat.le_refl _) _, by simp⟩

/-- What the members' row holds behind k rounds. -/
def mRow (ks : List ByteArray) (q : Nat → Value) (k : Nat) (i : Nat) : Value :=
  if i % 2 = 0 then (if i / 2 < k then .string (ks.getD (i / 2) ByteArray.empty) else .string ⟨#[]⟩)
  else (if i / 2 < k then q (i / 2) else .pointer none)

/-- 'make([]Member, n)'. -/
theorem make_members (n : Nat) (N : Int) (hN : N = n) (h : n ≤ 1048577) (ks : List ByteArray) (q : Nat → Value) (w : World) : ∃ w', (Instr.makeSlice 25 (.int .i64 N) (.int .i64 N)).run Try.prog w = .ok (.slice (some ⟨w.heap.size, 0, none⟩) n n) w' ∧ Below w.heap.size w w' ∧
    w'.heap.size = w.heap.size + 1 ∧ w'.rowIs w.heap.size 32 (n * 2) (mRow ks q 0) := by
  subst hN
  obtain ⟨i, hi, hz, hs, hb⟩ := info_parts info32
  have hr := run_make (P := Try.prog) w 25 32 i _ Try.underlying25 hi hz .i64 .i64 n n (by omega) (Int.le_refl _) (by rw [hb]; omega) (by omega)
  rw [Int.toNat_natCast, hs] at hr
  refine ⟨_, hr, (Below.refl _ _).alloc (Nat.le_refl _) _, by simp, ?_⟩
  have hm : (madeCells (Value.agg #[.string ⟨#[]⟩, .pointer none]).cells (n * 2)).size = n * 2 := size_madeCells _ _
  have hrow := World.rowIs_alloc w (madeCells (Value.agg #[.string ⟨#[]⟩, .pointer none]).cells (n * 2)) 32 (mRow ks q 0) (fun i hi => by
    rw [hm] at hi
    simp only [madeCells, Value.cells, mRow]
    have h2 : i % 2 = 0 ∨ i % 2 = 1 := by omega
    rcases h2 with h2 | h2 <;> simp [hi, h2])
  rw [hm] at hrow
  exact hrow

theorem mRow_step (ks : List ByteArray) (q : Nat → Value) (k : Nat) (h : k < ks.length) (i : Nat) : (if i = k * 2 + 1 then q k else if i = k * 2 then .string ks[k] else mRow ks q k i) = mRow ks q (k + 1) i := by
  have e : ks.getD k ByteArray.empty = ks[k] := by simp [List.getD, h]
  unfold mRow
  by_cases h1 : i = k * 2 + 1
  · subst h1
    rw [if_pos rfl, if_neg (by omega), show (k * 2 + 1) / 2 = k by omega, if_pos (by omega)]
  · rw [if_neg h1]
    by_cases h2 : i = k * 2
    · subst h2
      rw [if_pos rfl, if_pos (by omega), show k * 2 / 2 = k by omega, if_pos (by omega), e]
    · rw [if_neg h2]
      by_cases h3 : i % 2 = 0
      · rw [if_pos h3, if_pos h3]
        by_cases h4 : i / 2 < k
        · rw [if_pos h4, if_pos (by omega)]
        · rw [if_neg h4, if_neg (by omega)]
      · rw [if_neg h3, if_neg h3]
        by_cases h4 : i / 2 < k
        · rw [if_pos h4, if_pos (by omega)]
        · rw [if_neg h4, if_neg (by omega)]

/-- The members' row, whole: each key and each pointer. -/
theorem row_cells {w : World} {M n : Nat} {ks : List ByteArray} {q : Nat → Value} (h : w.rowIs M 32 (n * 2) (mRow ks q n)) (hn : ks.length = n) (j : Nat) (hj : j < ks.length) :
    w.cell? ⟨M, j * 2, none⟩ = some (.string ks[j]) ∧ w.cell? ⟨M, j * 2 + 1, none⟩ = some (q j) := by
  have e : ks.getD j ByteArray.empty = ks[j] := by simp [List.getD, hj]
  constructor
  · rw [h.cell (by omega)]
    unfold mRow
    rw [if_pos (by omega), show j * 2 / 2 = j by omega, if_pos (by omega), e]
  · rw [h.cell (by omega)]
    unfold mRow
    rw [if_neg (by omega), show (j * 2 + 1) / 2 = j by omega, if_pos (by omega)]

/-- sl is a slice of members that reads as the keys ks with the pointers q. -/
def Ms (w : World) (sl : Value) (ks : List ByteArray) (q : Nat → Addr) : Prop :=
  (ks = [] ∧ ∃ a cap, sl = .slice a 0 cap) ∨
  (0 < ks.length ∧ ∃ M off cap, sl = .slice (some ⟨M, off, none⟩) ks.length cap ∧ ks.length ≤ cap ∧ ∀ j (h : j < ks.length), w.cell? ⟨M, off + j * 2, none⟩ = some (.string ks[j]) ∧ w.cell? ⟨M, off + j * 2 + 1, none⟩ = some (.pointer (some (q j))))

theorem Ms.below {w w' : World} {sl : Value} {ks : List ByteArray} {q : Nat → Addr} (h : Ms w sl ks q) (hb : Below w.heap.size w w') : Ms w' sl ks q := by
  rcases h with h | ⟨hp, M, off, cap, e, hc, hcell⟩
  · exact .inl h
  · refine .inr ⟨hp, M, off, cap, e, hc, fun j hj => ?_⟩
    obtain ⟨h1, h2⟩ := hcell j hj
    have hM : M < w.heap.size := World.block_lt_of_cell? w ⟨M, off + j * 2, none⟩ h1
    exact ⟨(hb.cell (p := ⟨M, off + j * 2, none⟩) hM).trans h1, (hb.cell (p := ⟨M, off + j * 2 + 1, none⟩) hM).trans h2⟩

set_option maxHeartbeats 400000 in
theorem get_ms (w : World) (N : Nat) (sl : Value) (ks : List ByteArray) (q : Nat → Addr) (key : ByteArray) (r : Value) (hN : w.cell? ⟨N, 2, none⟩ = some sl) (hM : Ms w sl ks q) (hl : ks.length ≤ 1048576) (hr : found (fun j => .pointer (some (q j))) key ks 0 = r) :
    Calls Try.prog 6 #[.pointer (some ⟨N, 0, none⟩), .string key] w fun e w' => e = .returned r ∧ Below w.heap.size w w' := by
  subst hr
  rcases hM with ⟨rfl, a, cap, rfl⟩ | ⟨hp, M, off, cap, rfl, hc, hcell⟩
  · go_enter Try.func6, Try.ntmps6
    go_wp2
    go_loopg [12] 0 (fun g si wx => w = wx ∧ si = .int .i64 0)
    case atStart => exact ⟨rfl, rfl⟩
    case round =>
      obtain ⟨rfl, rfl⟩ := hrel
      go_wp2
      go_ret
      exact ⟨rfl, Below.refl _ _⟩
  · exact get_any w N M off cap ks q key hN hp hc hl hcell

/-- A part of a row of members. -/
theorem ms_part {w : World} {M n : Nat} {ks : List ByteArray} {q : Nat → Addr} (h : w.rowIs M 32 (n * 2) (mRow ks (fun j => .pointer (some (q j))) n)) (hn : ks.length = n) (lo hi cap : Nat) (hlo : lo ≤ hi) (hhi : hi ≤ n) (hcap : hi - lo ≤ cap) :
    lo < hi → Ms w (.slice (some ⟨M, lo * 2, none⟩) (hi - lo) cap) ((ks.take hi).drop lo) (fun j => q (lo + j)) := by
  intro hlt
  have hlen : ((ks.take hi).drop lo).length = hi - lo := by simp; omega
  refine .inr ⟨by omega, M, lo * 2, cap, by rw [hlen], by omega, fun j hj => ?_⟩
  have hj' : lo + j < ks.length := by omega
  obtain ⟨h1, h2⟩ := row_cells h hn (lo + j) hj'
  rw [show lo * 2 + j * 2 = (lo + j) * 2 by omega]
  refine ⟨?_, h2⟩
  rw [h1]
  simp

theorem ms_left {w : World} {M n : Nat} {ks : List ByteArray} {q : Nat → Addr} (h : w.rowIs M 32 (n * 2) (mRow ks (fun j => .pointer (some (q j))) n)) (hn : ks.length = n) (c : Nat) (hc : c ≤ n) : Ms w (.slice (some ⟨M, 0, none⟩) c n) (ks.take c) q := by
  by_cases h0 : c = 0
  · subst h0; exact .inl ⟨by simp, _, n, rfl⟩
  · have := ms_part h hn 0 c n (by omega) hc (by omega) (by omega)
    simpa using this

theorem ms_right {w : World} {M n : Nat} {ks : List ByteArray} {q : Nat → Addr} (h : w.rowIs M 32 (n * 2) (mRow ks (fun j => .pointer (some (q j))) n)) (hn : ks.length = n) (c : Nat) (hc : c < n) : Ms w (.slice (some ⟨M, c * 2, none⟩) (n - c) (n - c)) (ks.drop c) (fun j => q (c + j)) := by
  have := ms_part h hn c n (n - c) (by omega) (Nat.le_refl _) (Nat.le_refl _) hc
  rwa [← hn, List.take_length, hn] at this

/-- Three nodes, laid one behind the other. -/
theorem three_nodes (wr : World) (kind : Int) (s1 s2 s3 : Value) : ∃ W, ((wr.alloc (.cells #[.int .u8 kind, .string ⟨#[]⟩, s1, .slice none 0 0] 30)).alloc (.cells #[.int .u8 kind, .string ⟨#[]⟩, s2, .slice none 0 0] 30)).alloc (.cells #[.int .u8 kind, .string ⟨#[]⟩, s3, .slice none 0 0] 30) = W ∧
    W.cell? ⟨wr.heap.size, 2, none⟩ = some s1 ∧ W.cell? ⟨wr.heap.size + 1, 2, none⟩ = some s2 ∧ W.cell? ⟨wr.heap.size + 1 + 1, 2, none⟩ = some s3 ∧ Below wr.heap.size wr W ∧ W.heap.size = wr.heap.size + 1 + 1 + 1 := by
  refine ⟨_, rfl, ?_, ?_, ?_, (((Below.refl _ _).alloc (Nat.le_refl _) _).alloc (by simp) _).alloc (by simp; omega) _, by simp⟩
  · have h := Go.heap_alloc_new wr (.cells #[.int .u8 kind, .string ⟨#[]⟩, s1, .slice none 0 0] 30)
    rw [cell_of_row _ wr.heap.size 2 _ 30 (0, 0) (by rw [Below.heap_alloc _ _ _ (by simp; omega), Below.heap_alloc _ _ _ (by simp)]; exact h)]
    rfl
  · have h := Go.heap_alloc_new (wr.alloc (.cells #[.int .u8 kind, .string ⟨#[]⟩, s1, .slice none 0 0] 30)) (.cells #[.int .u8 kind, .string ⟨#[]⟩, s2, .slice none 0 0] 30)
    have e : (wr.alloc (.cells #[.int .u8 kind, .string ⟨#[]⟩, s1, .slice none 0 0] 30)).heap.size = wr.heap.size + 1 := by simp
    rw [e] at h
    rw [cell_of_row _ (wr.heap.size + 1) 2 _ 30 (0, 0) (by rw [Below.heap_alloc _ _ _ (by simp)]; exact h)]
    rfl
  · have h := Go.heap_alloc_new ((wr.alloc (.cells #[.int .u8 kind, .string ⟨#[]⟩, s1, .slice none 0 0] 30)).alloc (.cells #[.int .u8 kind, .string ⟨#[]⟩, s2, .slice none 0 0] 30)) (.cells #[.int .u8 kind, .string ⟨#[]⟩, s3, .slice none 0 0] 30)
    have e : ((wr.alloc (.cells #[.int .u8 kind, .string ⟨#[]⟩, s1, .slice none 0 0] 30)).alloc (.cells #[.int .u8 kind, .string ⟨#[]⟩, s2, .slice none 0 0] 30)).heap.size = wr.heap.size + 1 + 1 := by simp
    rw [e] at h
    rw [cell_of_row _ (wr.heap.size + 1 + 1) 2 _ 30 (0, 0) h]
    rfl

/-- The place of the first key, as a fact. -/
theorem found_cases (p : Nat → Value) (key : ByteArray) (ks : List ByteArray) : (∀ j (h : j < ks.length), ks[j] ≠ key) ∨ ∃ f, ∃ h : f < ks.length, ks[f] = key ∧ ∀ j (h : j < ks.length), j < f → ks[j] ≠ key := by
  by_cases hx : ∃ f, ∃ h : f < ks.length, ks[f] = key
  · right
    obtain ⟨f, ⟨hf, he⟩, hleast⟩ := exists_least hx
    exact ⟨f, hf, he, fun j hj hjf e => absurd (hleast j ⟨hj, e⟩) (by omega)⟩
  · left
    intro j hj e
    exact hx ⟨j, hj, e⟩
/-- What the three answers are. -/
theorem three_found (q : Nat → Addr) (key : ByteArray) (ks : List ByteArray) (c : Nat) (hc : c ≤ ks.length) (vF vL vR : Value) (hF : found (fun j => .pointer (some (q j))) key ks 0 = vF)
    (hL : found (fun j => .pointer (some (q j))) key (ks.take c) 0 = vL) (hR : found (fun j => .pointer (some (q (c + j)))) key (ks.drop c) 0 = vR) :
    ((∀ j (h : j < ks.length), ks[j] ≠ key) ∧ vF = .pointer none ∧ vL = .pointer none ∧ vR = .pointer none) ∨
    ∃ f, ∃ h : f < ks.length, ks[f] = key ∧ (∀ j (h : j < ks.length), j < f → ks[j] ≠ key) ∧ vF = .pointer (some (q f)) ∧ (vL = .pointer (some (q f)) ∨ (vL = .pointer none ∧ vR = .pointer (some (q f)))) := by
  rcases found_cases (fun j => .pointer (some (q j))) key ks with h | ⟨f, hf, he, hall⟩
  · left
    refine ⟨h, ?_, ?_, ?_⟩
    · rw [← hF]; exact found_no _ _ _ h
    · rw [← hL]; exact found_no _ _ _ fun j hj => by
        rw [List.getElem_take]; exact h j (by simp at hj; omega)
    · rw [← hR]; exact found_no _ _ _ fun j hj => by
        rw [List.getElem_drop]; exact h (c + j) (by simp at hj; omega)
  · right
    refine ⟨f, hf, he, hall, ?_, ?_⟩
    · rw [← hF]; exact found_at _ _ _ f hf hall he
    · by_cases hfc : f < c
      · left
        rw [← hL]
        exact found_at _ _ _ f (by simp; omega) (fun j hj hjf => by rw [List.getElem_take]; exact hall j (by simp at hj; omega) hjf) (by rw [List.getElem_take]; exact he)
      · right
        constructor
        · rw [← hL]
          exact found_no _ _ _ fun j hj => by
            have hjc : j < c := by simp at hj; omega
            rw [List.getElem_take]; exact hall j (by omega) (by omega)
        · rw [← hR]
          rw [found_at _ _ _ (f - c) (by simp; omega) (fun j hj hjf => by rw [List.getElem_drop]; exact hall (c + j) (by simp at hj; omega) (by omega)) (by rw [List.getElem_drop]; simp only [show c + (f - c) = f by omega]; exact he)]
          rw [show c + (f - c) = f by omega]

/-- The law's own search, from the end: what it has found of the places from k on. -/
def Fst (ks : List ByteArray) (key : ByteArray) (k : Nat) (F : Int) : Prop :=
  (F = -1 ∧ ∀ j (h : j < ks.length), k ≤ j → ks[j] ≠ key) ∨ (∃ f : Nat, ∃ h : f < ks.length, F = f ∧ k ≤ f ∧ ks[f] = key ∧ ∀ j (h : j < ks.length), k ≤ j → j < f → ks[j] ≠ key)
theorem Fst_start (ks : List ByteArray) (key : ByteArray) : Fst ks key ks.length (-1) := .inl ⟨rfl, fun j h h' => by omega⟩
theorem Fst_hit {ks : List ByteArray} {key : ByteArray} {k : Nat} (h : k < ks.length) (he : ks[k] = key) : Fst ks key k k := .inr ⟨k, h, rfl, Nat.le_refl _, he, fun j _ a b => by omega⟩
theorem Fst_miss {ks : List ByteArray} {key : ByteArray} {k : Nat} {F : Int} (h : k < ks.length) (he : ks[k] ≠ key) (hF : Fst ks key (k + 1) F) : Fst ks key k F := by
  rcases hF with ⟨rfl, ha⟩ | ⟨f, hf, rfl, hk, hef, ha⟩
  · refine .inl ⟨rfl, fun j hj hkj => ?_⟩
    by_cases e : j = k
    · subst e; exact he
    · exact ha j hj (by omega)
  · refine .inr ⟨f, hf, rfl, by omega, hef, fun j hj hkj hjf => ?_⟩
    by_cases e : j = k
    · subst e; exact he
    · exact ha j hj (by omega) hjf
theorem Fst_none {ks : List ByteArray} {key : ByteArray} {F : Int} (hF : Fst ks key 0 F) (h : ∀ j (h : j < ks.length), ks[j] ≠ key) : F = -1 := by
  rcases hF with ⟨rfl, _⟩ | ⟨f, hf, _, _, he, _⟩
  · rfl
  · exact absurd he (h f hf)
theorem Fst_some {ks : List ByteArray} {key : ByteArray} {F : Int} (hF : Fst ks key 0 F) (f : Nat) (hf : f < ks.length) (he : ks[f] = key) (hall : ∀ j (h : j < ks.length), j < f → ks[j] ≠ key) : F = f := by
  rcases hF with ⟨_, h⟩ | ⟨g, hg, rfl, _, heg, hallg⟩
  · exact absurd he (h f hf (by omega))
  · rcases Nat.lt_trichotomy f g with h | h | h
    · exact absurd he (hallg f hf (by omega) h)
    · rw [h]
    · exact absurd heg (hall g hg h)

end Go.Proofs.Qxb6630723a
