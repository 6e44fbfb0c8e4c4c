/-
  Slices of bytes that are read: 'Rd'; the walks of 'zzClone' and 'zzBytesEqual'.
-/
import Derived.Test.Qxb6630530aMem
import Derived.Test.Qxb6630530aSmall
import Derived.Lib.SliceRun
import Derived.Deep.LoopGhost
namespace Go.Proofs.Qxb6630530a
open Go.RowKit
set_option linter.unusedVariables false

/-- v is a slice that reads as the bytes l. -/
def Rd (w : World) (v : Value) (l : List UInt8) : Prop :=
  (l = [] ∧ ∃ a cap, v = .slice a 0 cap ∧ (a = none → cap = 0)) ∨
  (0 < l.length ∧ ∃ b off cap, v = .slice (some ⟨b, off, none⟩) l.length cap ∧ l.length ≤ cap ∧ ∀ j (h : j < l.length), w.cell? ⟨b, off + j, none⟩ = some (.int .u8 (l[j].toNat : Int)))

theorem Rd.of_own {w : World} {v : Value} {l : List UInt8} (h : w.ownsRow 0 5 1 v l.length (bv l)) : Rd w v l := by
  by_cases hl : l = []
  · subst hl
    rcases h.2 with ⟨rfl, _⟩ | ⟨g, cap, cur, rfl, _, _, _⟩
    · exact .inl ⟨rfl, none, 0, rfl, fun _ => rfl⟩
    · exact .inl ⟨rfl, _, cap, rfl, fun e => by cases e⟩
  · have hp : 0 < l.length := List.length_pos_iff.2 hl
    rcases h.2 with ⟨rfl, h0⟩ | ⟨g, cap, cur, rfl, hb, hg, hc, hm, hs, ht⟩
    · omega
    · refine .inr ⟨hp, g, 0, cap, rfl, hc, fun j hj => ?_⟩
      have := h.cells (g := g) rfl j (.int .u8 (l[j].toNat : Int)) (by simp [bv, hj])
      rw [Addr.add_lit] at this
      exact this

theorem Bf.rd {A : Nat → Prop} {w : World} {v : Value} {l : List UInt8} (h : Bf A w v l) : Rd w v l := Rd.of_own h.own

theorem Rd.below {w w' : World} {v : Value} {l : List UInt8} (h : Rd w v l) (k : Keep (fun k => k < w.heap.size) w w') : Rd w' v l := by
  rcases h with h | ⟨hp, b, off, cap, rfl, hc, hcell⟩
  · exact .inl h
  · refine .inr ⟨hp, b, off, cap, rfl, hc, fun j hj => ?_⟩
    have h1 := hcell j hj
    rw [← h1]
    exact World.cell?_of_block (k.block b (World.block_lt_of_cell? w ⟨b, off + j, none⟩ h1))

theorem Rd.drewN {w : World} {v : Value} {l : List UInt8} (h : Rd w v l) (n : Nat) : Rd (w.drewN n) v l := h.below ((Keep.refl _ _).drewN n)

theorem Rd.form {w : World} {v : Value} {l : List UInt8} (h : Rd w v l) : ∃ a cap, v = .slice a l.length cap := by
  rcases h with ⟨rfl, a, cap, rfl, _⟩ | ⟨hp, b, off, cap, rfl, _⟩
  · exact ⟨a, cap, rfl⟩
  · exact ⟨_, cap, rfl⟩

theorem Src_rd {w : World} {v : Value} {l : List UInt8} (h : Rd w v l) : Src Try.prog 1 22 v l.length (bv l) w := by
  rcases h with ⟨rfl, a, cap, rfl, _⟩ | ⟨hp, b, off, cap, rfl, hc, hcell⟩
  · cases a with
    | none => exact Src.ofNil w Try.underlying22 cap
    | some x => exact Src.ofSlice w Try.underlying22 x 0 cap [] rfl (fun j u hj => by simp at hj) (fun u hu => by cases hu)
  · refine Src.ofSlice w Try.underlying22 ⟨b, off, none⟩ l.length cap (bv l) (by simp [bv]) (fun j u hj => ?_) (bv_one _)
    have hjl : j < l.length := by
      have := (List.getElem?_eq_some_iff.1 hj).1
      simpa [bv] using this
    rw [Addr.add_lit, hcell j hjl]
    simp [bv, hjl] at hj
    rw [hj]

/-- 'make([]byte, n)'. -/
theorem make_full (n : Nat) (h : n ≤ 1099511627776) (w : World) : ∃ w', (Instr.makeSlice 22 (.int .i64 (n : Int)) (.int .i64 (n : Int))).run Try.prog w = .ok (.slice (some ⟨w.heap.size, 0, none⟩) n n) w' ∧
    w'.rowIs w.heap.size 5 n (fun _ => .int .u8 0) ∧ Keep (fun k => k < w.heap.size) w w' :=
  ⟨_, run_make_row' 22 5 (.int .u8 0) 1 Try.underlying22 info5 rfl .i64 .i64 n (by omega) (by omega) w, World.rowIs_made _ _ _ _, (Keep.refl _ _).alloc (fun _ h => h) _⟩

/-- 'make([]byte, 0, n)'. -/
theorem make_cap (n : Nat) (N : Int) (hN : N = n) (h : n ≤ 1099511627776) (w : World) : ∃ v w', (Instr.makeSlice 22 (.int .i64 0) (.int .i64 N)).run Try.prog w = .ok v w' ∧ v ≠ .slice none 0 0 ∧
    Bf (fun k => k < w.heap.size) w' v [] ∧ Keep (fun k => k < w.heap.size) w w' := by
  subst hN
  obtain ⟨i, hi, hzz⟩ := Option.map_eq_some_iff.1 info5
  simp only [Prod.mk.injEq] at hzz
  obtain ⟨hz, hsz, hby⟩ := hzz
  obtain ⟨w', hr, ho, hg⟩ := run_make_own (P := Try.prog) w 0 22 5 i (.int .u8 0) 1 Try.underlying22 hi hz hsz .i64 .i64 n (by rw [hby]; omega) (by unfold maxLen; omega) (Nat.zero_le _)
  refine ⟨_, w', hr, by simp, ⟨ho, fun k hk => Nat.lt_of_lt_of_le hk hg.size, fun k hk e => ?_⟩, ⟨hg.os, hg.tape, hg.output, hg.size, fun k hk => hg.block k hk (by simp)⟩⟩
  simp [Value.ownBlock] at e
  omega

theorem own_of_row {w : World} {B n : Nat} {l : List UInt8} (hn : l.length = n) (h : w.rowIs B 5 n (fun j => .int .u8 ((l.getD j 0).toNat : Int))) (hm : n ≤ 1099511627776) : w.ownsRow 0 5 1 (.slice (some ⟨B, 0, none⟩) n n) l.length (bv l) := by
  subst hn
  obtain ⟨c, hc, hs, hcell⟩ := h
  refine ⟨by simp [bv], .inr ⟨B, l.length, c, rfl, Nat.zero_le _, hc, Nat.le_refl _, by unfold maxLen; omega, by omega, ?_⟩⟩
  apply List.ext_getElem?
  intro j
  by_cases hj : j < l.length
  · rw [List.getElem?_take_of_lt (by omega)]
    have := hcell j hj
    rw [Array.getElem?_toList, this]
    simp [bv, hj, List.getD]
  · rw [List.getElem?_eq_none (by simp; omega), List.getElem?_eq_none (by simp [bv]; omega)]

/-- What the copy holds behind k rounds. -/
def cpRow (l : List UInt8) (k : Nat) (j : Nat) : Value := .int .u8 (if j < k then ((l.getD j 0).toNat : Int) else 0)
theorem cpRow_zero (l : List UInt8) (j : Nat) : Value.int .u8 0 = cpRow l 0 j := by simp [cpRow]
theorem cpRow_succ (l : List UInt8) (k : Nat) (h : k < l.length) (j : Nat) : (if j = k then .int .u8 (l[k].toNat : Int) else cpRow l k j) = cpRow l (k + 1) j := by
  unfold cpRow
  have e : l.getD k 0 = l[k] := by simp [List.getD, h]
  by_cases hj : j = k
  · subst hj; rw [if_pos rfl, if_pos (by omega), e]
  · rw [if_neg hj]
    by_cases hlt : j < k
    · rw [if_pos hlt, if_pos (by omega)]
    · rw [if_neg hlt, if_neg (by omega)]

set_option maxHeartbeats 400000 in
theorem clone_any (w : World) (v : Value) (l : List UInt8) (hR : Rd w v l) (hlen : l.length ≤ 1099511627776) :
    Calls Try.prog 7 #[v] w fun e w' => ∃ v', e = .returned v' ∧ Bf (fun k => k < w.heap.size) w' v' l ∧ Keep (fun k => k < w.heap.size) w w' := by
  have hR0 := hR
  rcases hR with ⟨rfl, a, cap, rfl, hcap⟩ | ⟨hp, b, off, cap, rfl, hc, hcell⟩
  · cases a with
    | none =>
      obtain rfl := hcap rfl
      clear hcap
      have hnil := fun wx => Lib.run_eql_slice_nil (P := Try.prog) wx 22 5 none 0 0 0 0 Try.underlying22
      go_enter Try.func7, Try.ntmps7
      go_wp2
      go_ret
      exact ⟨_, rfl, ⟨World.ownsRow_nil _ _ _ _, fun k hk => hk, fun k hk e => by cases e⟩, Keep.refl _ _⟩
    | some x =>
      clear hcap
      have hnil := fun wx => Lib.run_eql_slice_nil (P := Try.prog) wx 22 5 (some x) 0 cap 0 0 Try.underlying22
      obtain ⟨w1, hmk0, hrow, hk⟩ := make_full 0 (by omega) w
      have hmk : (Instr.makeSlice 22 (.int .i64 0) (.int .i64 0)).run Try.prog w = .ok (.slice (some ⟨w.heap.size, 0, none⟩) 0 0) w1 := hmk0
      have Hrow : Hid (w1.rowIs w.heap.size 5 0 (fun _ => .int .u8 0)) := hrow
      clear hrow hmk0
      go_enter Try.func7, Try.ntmps7
      go_wp2
      go_loopg [4] 0 (fun g si wx => w1 = wx ∧ si = .int .i64 0)
      case atStart => exact ⟨rfl, rfl⟩
      case round =>
        obtain ⟨rfl, rfl⟩ := hrel
        go_wp2
        go_ret
        refine ⟨_, rfl, ⟨own_of_row (l := []) rfl (Hrow.out.congr fun j hj => by omega) (by omega), fun k h => Nat.lt_of_lt_of_le h hk.size, fun k h e => ?_⟩, hk⟩
        simp [Value.ownBlock] at e
        omega
  · have hnil := fun wx => Lib.run_eql_slice_nil (P := Try.prog) wx 22 5 (some ⟨b, off, none⟩) l.length cap 0 0 Try.underlying22
    obtain ⟨w1, hmk, hrow, hk⟩ := make_full l.length hlen w
    have Hrow : Hid (w1.rowIs w.heap.size 5 l.length (fun _ => .int .u8 0)) := hrow
    clear hrow
    go_enter Try.func7, Try.ntmps7
    go_wp2
    have Hcell : Hid (∀ j (h : j < l.length), w.cell? ⟨b, off + j, none⟩ = some (.int .u8 (l[j].toNat : Int))) := hcell
    have hbW : b < w.heap.size := World.block_lt_of_cell? w ⟨b, off + 0, none⟩ (hcell 0 hp)
    have hne : w.heap.size ≠ b := by omega
    clear hcell
    go_loopg [4] l.length (fun g si wr => ∃ k : Nat, k ≤ l.length ∧ g = l.length - k ∧ si = .int .i64 k ∧ wr.rowIs w.heap.size 5 l.length (cpRow l k) ∧ Keep (fun k => k < w.heap.size) w wr)
    case atStart => exact ⟨0, Nat.zero_le _, rfl, rfl, Hrow.out.congr (fun j _ => cpRow_zero l j), hk⟩
    case round =>
      obtain ⟨k, hkl, rfl, rfl, hrow, hb⟩ := hrel
      by_cases hlt : k < l.length
      · have hc0 := hrow.cell hlt
        have hfro := hrow.frozen k
        have hcb : wr.cell? ⟨b, off + k, none⟩ = some (.int .u8 (l[k].toNat : Int)) := (World.cell?_of_block (hb.block b hbW)).trans (Hcell.out k hlt)
        have Hst : Hid ((wr.setCell ⟨w.heap.size, k, none⟩ (.int .u8 (l[k].toNat : Int))).rowIs w.heap.size 5 l.length (cpRow l (k + 1))) :=
          (hrow.set k _).congr fun j _ => cpRow_succ l k hlt j
        have Hb : Hid (Keep (fun k => k < w.heap.size) w (wr.setCell ⟨w.heap.size, k, none⟩ (.int .u8 (l[k].toNat : Int)))) := hb.setCell (Nat.lt_irrefl _) _
        clear hrow hb
        go_wp2
        go_roundg (l.length - (k + 1))
        case measure => omega
        case rel => exact ⟨k + 1, by omega, rfl, by go_num, Hst.out, Hb.out⟩
      · obtain rfl : k = l.length := by omega
        go_wp2
        go_ret
        refine ⟨_, rfl, ⟨own_of_row rfl (hrow.congr fun j hj => ?_) (by omega), fun k h => Nat.lt_of_lt_of_le h hb.size, fun k h e => ?_⟩, hb⟩
        · unfold cpRow; rw [if_pos hj]
        · simp [Value.ownBlock] at e
          omega
end Go.Proofs.Qxb6630530a
