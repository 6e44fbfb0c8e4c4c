/-
  The walks of 'zzBytesEqual', 'ZZnewEmitter', 'ZZwriteSingleQuoted', 'ZZemitterFields', and of the two bounds on length.
-/
import Derived.Test.Qxb6630530aBufs
import Derived.Test.Qxb6630530aWsq
namespace Go.Proofs.Qxb6630530a
open Go.RowKit
set_option linter.unusedVariables false

/-- The world has drawn some answers, and nothing else. -/
def Drew (w w' : World) : Prop := ∃ n, w' = w.drewN n
theorem Drew.refl (w : World) : Drew w w := ⟨0, rfl⟩
theorem Drew.more {w w' : World} (h : Drew w w') (n : Nat) : Drew w (w'.drewN n) := by
  obtain ⟨m, rfl⟩ := h; exact ⟨m + n, by rw [World.drewN_drewN]⟩
theorem Drew.keep {w w' : World} (h : Drew w w') (A : Nat → Prop) : Keep A w w' := by
  obtain ⟨n, rfl⟩ := h; exact (Keep.refl _ _).drewN n
theorem Drew.rd {w w' : World} (h : Drew w w') {v : Value} {l : List UInt8} (hR : Rd w v l) : Rd w' v l := by
  obtain ⟨n, rfl⟩ := h; exact hR.drewN n

set_option maxHeartbeats 400000 in
theorem bytesEqual_yes (w : World) (v1 v2 : Value) (l : List UInt8) (h1 : Rd w v1 l) (h2 : Rd w v2 l) (hlen : l.length ≤ 1099511627776) :
    Calls Try.prog 12 #[v1, v2] w fun e w' => e = .returned (.bool true) ∧ Drew w w' := by
  have hb : ((l.length : Int) != (l.length : Int)) = false := by simp
  by_cases hl : l = []
  · subst hl
    obtain ⟨a1, c1, rfl⟩ := h1.form
    obtain ⟨a2, c2, rfl⟩ := h2.form
    go_enter Try.func12, Try.ntmps12
    go_wp2
    go_loopg [5] 0 (fun g si wx => w = wx ∧ si = .int .i64 0)
    case atStart => exact ⟨rfl, rfl⟩
    case round =>
      obtain ⟨rfl, rfl⟩ := hrel
      go_wp2
      go_ret
      exact ⟨rfl, Drew.refl _⟩
  · have hp : 0 < l.length := List.length_pos_iff.2 hl
    rcases h1 with ⟨rfl, _⟩ | ⟨_, b1, o1, c1, rfl, hc1, hcell1⟩
    · exact absurd rfl hl
    rcases h2 with ⟨rfl, _⟩ | ⟨_, b2, o2, c2, rfl, hc2, hcell2⟩
    · exact absurd rfl hl
    have H1 : Hid (∀ j (h : j < l.length), w.cell? ⟨b1, o1 + j, none⟩ = some (.int .u8 (l[j].toNat : Int))) := hcell1
    have H2 : Hid (∀ j (h : j < l.length), w.cell? ⟨b2, o2 + j, none⟩ = some (.int .u8 (l[j].toNat : Int))) := hcell2
    clear hcell1 hcell2 hl
    go_enter Try.func12, Try.ntmps12
    go_wp2
    go_loopg [5] l.length (fun g si wr => ∃ k : Nat, k ≤ l.length ∧ g = l.length - k ∧ si = .int .i64 k ∧ Drew w wr)
    case atStart => exact ⟨0, Nat.zero_le _, rfl, rfl, Drew.refl _⟩
    case round =>
      obtain ⟨k, hk, rfl, rfl, hd⟩ := hrel
      by_cases hlt : k < l.length
      · have g1 : wr.cell? ⟨b1, o1 + k, none⟩ = some (.int .u8 (l[k].toNat : Int)) := by
          obtain ⟨n, rfl⟩ := hd; simpa using H1.out k hlt
        have g2 : wr.cell? ⟨b2, o2 + k, none⟩ = some (.int .u8 (l[k].toNat : Int)) := by
          obtain ⟨n, rfl⟩ := hd; simpa using H2.out k hlt
        have i1 : (k : Int) < (l.length : Int) := by omega
        have i0 : (0 : Int) ≤ (k : Int) := by omega
        go_wp2_with fail
        go_quiet (fail)
        go_wp2
        go_roundg (l.length - (k + 1))
        case measure => omega
        case rel => exact ⟨k + 1, by omega, rfl, by go_num, hd.more _⟩
      · go_wp2
        go_ret
        exact ⟨rfl, hd⟩

set_option maxHeartbeats 400000 in
theorem newEmitter_any (w : World) (a : Option Addr) (n c : Nat) (col ind : Int) (ws inn : Bool) :
    Calls Try.prog 9 #[.slice a n c, .int .i64 col, .int .i64 ind, .bool ws, .bool inn] w fun e w' => e = .returned (.pointer (some ⟨w.heap.size, 0, none⟩)) ∧
      Box w' w.heap.size (.slice a n c) col ind ws inn ∧ Keep (fun k => k < w.heap.size) w w' := by
  go_enter Try.func9, Try.ntmps9
  go_wp2
  go_ret
  refine ⟨rfl, ?_, (Keep.refl _ _).alloc (fun _ h => h) _⟩
  simp [Box, World.alloc, -World.alloc_eq]

set_option maxHeartbeats 400000 in
theorem zzwsq_any {S : Nat → Prop} {W w : World} {E : Nat} {l : List UInt8} {col ind : Int} {ws inn : Bool} (h : Em S W w E l col ind ws inn) (s : ByteArray) (fold : Bool) (pad : Nat) (hp : max ind 0 = (pad : Int)) (hpad : pad ≤ 65536)
    (hs : s.size ≤ 1048576) (hV : V s.data.toList 0) (hl : l.length ≤ 2097152) (h1 : -1073741824 ≤ col) (h2 : col ≤ 1073741824) :
    Calls Try.prog 10 #[.pointer (some ⟨E, 0, none⟩), .string s, .bool fold] w fun e w' => e = .returned (.tuple #[]) ∧
      Em S W w' E (scalar s.data.toList pad fold ws l col).1 (scalar s.data.toList pad fold ws l col).2 ind false false := by
  have Hp : Hid (max ind 0 = (pad : Int)) := hp
  clear hp
  go_enter Try.func10, Try.ntmps10
  go_wp2_with fail
  refine (wsq_any h s fold pad Hp.out hpad hs hV hl h1 h2).mono ?_
  rintro e w' ⟨rfl, hE⟩
  go_wp2
  go_end0
  exact ⟨rfl, hE⟩

set_option maxHeartbeats 400000 in
theorem fields_any {S : Nat → Prop} {W w : World} {E : Nat} {l : List UInt8} {col ind : Int} {ws inn : Bool} (h : Em S W w E l col ind ws inn) :
    Calls Try.prog 11 #[.pointer (some ⟨E, 0, none⟩)] w fun e w' => ∃ v, e = .returned (.tuple #[v, .int .i64 col, .int .i64 ind, .bool ws, .bool inn]) ∧ Keep S W w' ∧ w'.ownsRow 0 5 1 v l.length (bv l) ∧ Keep (fun k => k < w.heap.size) w w' ∧ (∀ k, S k → v.ownBlock ≠ some k) := by
  obtain ⟨v, hkp, hnE, hbox, hB⟩ := h
  have c0 := hbox.c0
  have c1 := hbox.c1
  have c2 := hbox.c2
  have c3 := hbox.c3
  have c4 := hbox.c4
  go_enter Try.func11, Try.ntmps11
  go_wp2_with fail
  go_quiet (fail)
  go_wp2
  refine bodyPost_ret (v := .tuple #[v, .int .i64 col, .int .i64 ind, .bool ws, .bool inn]) (by simp [results, Try.results11, go_sem]) rfl ?_
  exact ⟨v, rfl, hkp.drewN _, (hB.drewN _).own, (Keep.refl _ _).drewN _, fun k hk => hB.far k (.inl hk)⟩

set_option maxHeartbeats 400000 in
theorem bytesM_any (a : Option Addr) (len cap : Nat) (c i : Int) (b1 b2 b3 : Bool) (s : ByteArray) (w : World) (h1 : len ≤ 9223372036854775807) (h2 : s.size ≤ 9223372036854775807) :
    Calls Try.prog 5 #[.slice a len cap, .int .i64 c, .int .i64 i, .bool b1, .bool b2, .string s, .bool b3] w fun e w' => ∃ r : Bool, e = .returned (.bool r) ∧ w' = w := by
  go_enter Try.func5, Try.ntmps5
  go_wp2
  all_goals (go_ret; exact ⟨_, rfl, rfl⟩)

set_option maxHeartbeats 400000 in
theorem bytesF_any (a : Option Addr) (len cap : Nat) (c i : Int) (b1 b2 : Bool) (s : ByteArray) (w : World) (h1 : len ≤ 9223372036854775807) (h2 : s.size ≤ 9223372036854775807) :
    Calls Try.prog 13 #[.slice a len cap, .int .i64 c, .int .i64 i, .bool b1, .bool b2, .string s] w fun e w' => ∃ r : Bool, e = .returned (.bool r) ∧ w' = w := by
  go_enter Try.func13, Try.ntmps13
  go_wp2
  all_goals (go_ret; exact ⟨_, rfl, rfl⟩)
end Go.Proofs.Qxb6630530a
