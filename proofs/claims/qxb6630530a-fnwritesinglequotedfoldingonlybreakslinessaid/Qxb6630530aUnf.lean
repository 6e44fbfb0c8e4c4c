/-
  The walk of 'zzUnfold'.
-/
import Derived.Test.Qxb6630530aBufs
import Derived.Test.Qxb6630530aURel
import Derived.Deep.Light
namespace Go.Proofs.Qxb6630530a
open Go.RowKit
set_option linter.unusedVariables false
set_option linter.unusedSimpArgs false

theorem sub_rep {b : List UInt8} {q pad t : Nat} (h : sub b q pad = List.replicate pad 32) (hq : q + t < b.length) (ht : t < pad) : b[q + t] = 32 := by
  have e : (sub b q pad)[t]? = some b[q + t] := by
    unfold sub
    rw [List.getElem?_take_of_lt ht, List.getElem?_drop, List.getElem?_eq_getElem hq]
  rw [h, List.getElem?_replicate, if_pos ht] at e
  exact (Option.some.inj e).symm

theorem Src_rd' {w : World} {v : Value} {l : List UInt8} {n : Nat} (h : Rd w v l) (hn : l.length = n) : Src Try.prog 1 22 v n (bv l) w := by
  subst hn; exact Src_rd h

theorem rd_take {w : World} {bb off cap : Nat} {b : List UInt8} (hcap : b.length ≤ cap) (hcell : ∀ j (h : j < b.length), w.cell? ⟨bb, off + j, none⟩ = some (.int .u8 (b[j].toNat : Int))) (start : Nat) (hst : start ≤ b.length) :
    Rd w (.slice (some ⟨bb, off, none⟩) start cap) (b.take start) := by
  have hl : (b.take start).length = start := by simp; omega
  by_cases h0 : start = 0
  · subst h0; exact .inl ⟨by simp, _, cap, rfl, fun e => by cases e⟩
  · refine .inr ⟨by omega, bb, off, cap, by rw [hl], by omega, fun j hj => ?_⟩
    rw [hcell j (by omega)]
    simp

set_option maxRecDepth 10000 in
set_option maxHeartbeats 2000000 in
theorem unfold_any (w : World) (bb off cap : Nat) (b : List UInt8) (hp : 0 < b.length) (hcap : b.length ≤ cap) (hcell : ∀ j (h : j < b.length), w.cell? ⟨bb, off + j, none⟩ = some (.int .u8 (b[j].toNat : Int)))
    (start pad : Nat) (c0 : Int) (hst : start ≤ b.length) (hlen : b.length ≤ 1099511627776) (hcl : cap ≤ 9223372036854775807) (hpad : pad ≤ 65536) (h1 : -1073741824 ≤ c0) (h2 : c0 ≤ 1073741824) (F : List UInt8 × Int) (m0 : Nat) (hF : unf b start pad m0 start (b.take start) c0 = some F) :
    Calls Try.prog 15 #[.slice (some ⟨bb, off, none⟩) b.length cap, .int .i64 (start : Int), .int .i64 (pad : Int), .int .i64 c0] w fun e w' => ∃ v', e = .returned (.tuple #[v', .int .i64 F.2, .bool true]) ∧
      Bf (fun k => k < w.heap.size) w' v' F.1 ∧ Keep (fun k => k < w.heap.size) w w' := by
  have HF : Hid (unf b start pad m0 start (b.take start) c0 = some F) := hF
  have Hcell : Hid (∀ j (h : j < b.length), w.cell? ⟨bb, off + j, none⟩ = some (.int .u8 (b[j].toNat : Int))) := hcell
  have hbW : bb < w.heap.size := World.block_lt_of_cell? w ⟨bb, off + 0, none⟩ (hcell 0 hp)
  clear hF hcell
  obtain ⟨vb, wb, hmk, hvb, hBb, hkb⟩ := make_cap b.length (b.length : Int) rfl (by omega) w
  have Hvb : Hid (vb ≠ .slice none 0 0) := hvb
  clear hvb
  have s1 : (0 : Int) ≤ (start : Int) := by omega
  have s2 : (start : Int) ≤ (cap : Int) := by omega
  have HRt : Rd wb (.slice (some ⟨bb, off, none⟩) start cap) (b.take start) := (rd_take hcap Hcell.out start hst).below hkb
  have Htl : Hid ((b.take start).length = start) := by unfold Hid; simp; omega
  go_enter Try.func15, Try.ntmps15
  go_wp2_with (at_builtin; refine wpList_app (m := b.take start) hBb (Src_rd' HRt Htl.out) (by rw [Htl.out]; simp; omega) (fun e => absurd e Hvb.out) rfl (.tmp 20) (.tmp 23) rfl rfl rfl ?_)
  intro v1 w1 hB1 hk1
  have hk := hkb.trans hk1
  have hlr : Hid ((b.take start).length ≤ start) := by unfold Hid; rw [Htl.out]; exact Nat.le_refl _
  clear hBb hkb HRt hmk hk1 s1 s2
  go_wp2_with fail
  go_loopg [11, 12, 13] (b.length - start) (fun g sr sc sk wr => ∃ (k m : Nat) (r : List UInt8) (c : Int), g = b.length - k ∧ start ≤ k ∧ k ≤ b.length ∧ sc = .int .i64 c ∧ sk = .int .i64 k ∧ Bf (fun k => k < w.heap.size) wr sr r ∧ Keep (fun k => k < w.heap.size) w wr ∧
      unf b start pad m k r c = some F ∧ r.length ≤ k ∧ -1073741824 ≤ c ∧ c ≤ 1073807360 + k)
  case atStart =>
    have hB2 : Bf (fun k => k < w.heap.size) w1 v1 (b.take start) := by simpa using hB1
    exact ⟨start, m0, b.take start, c0, rfl, Nat.le_refl _, hst, rfl, rfl, hB2, hk, HF.out, hlr.out, h1, by omega⟩
  case round =>
    clear hB1 hk HF hlr h1 h2 Htl
    obtain ⟨k, m, r, c, rfl, hsk, hkb, rfl, rfl, hB, hk, hU, hrl, b1, b2⟩ := hrel
    have HC : Hid (∀ j (h : j < b.length), wr.cell? ⟨bb, off + j, none⟩ = some (.int .u8 (b[j].toNat : Int))) := fun j hj => (World.cell?_of_block (hk.block bb hbW)).trans (Hcell.out j hj)
    by_cases hlt : k < b.length
    · have g0 := HC.out k hlt
      obtain ⟨m', rfl, hcase⟩ := unf_inv hU hlt
      clear hU
      have hgd : b.getD k 0 = b[k] := by simp [List.getD, hlt]
      rw [bt_lt hlt, hgd] at hcase
      clear hgd
      rcases hcase with ⟨h10, hU⟩ | ⟨h10, ⟨q1, q2, q3, q4, q5, q6⟩, hU⟩
      · have t10 : ((b[k].toNat : Int) != 10) = true := by rw [bne_iff_ne]; omega
        clear h10
        by_cases l1 : b[k].toNat < 128
        · rw [if_pos (.inl l1)] at hU
          have HU : Hid (unf b start pad m' (k + 1) (r ++ [b[k]]) (c + 1) = some F) := hU
          clear hU
          go_wp2_with (at_builtin; refine wpList_put hB b[k] (b[k].toNat : Int) rfl (by omega) rfl (.tmp 37) (.tmp 39) rfl rfl rfl ?_)
          intro v2 w2 hB2 hk2
          go_wp2
          go_roundg (b.length - (k + 1))
          case measure => omega
          case rel => exact ⟨k + 1, m', _, _, rfl, by omega, by omega, rfl, by go_num, hB2, hk.trans hk2, HU.out, by simp; omega, by omega, by omega⟩
        by_cases l2 : 192 ≤ b[k].toNat
        · rw [if_pos (.inr l2)] at hU
          have HU : Hid (unf b start pad m' (k + 1) (r ++ [b[k]]) (c + 1) = some F) := hU
          clear hU
          go_wp2_with (at_builtin; refine wpList_put hB b[k] (b[k].toNat : Int) rfl (by omega) rfl (.tmp 37) (.tmp 39) rfl rfl rfl ?_)
          intro v2 w2 hB2 hk2
          go_wp2
          go_roundg (b.length - (k + 1))
          case measure => omega
          case rel => exact ⟨k + 1, m', _, _, rfl, by omega, by omega, rfl, by go_num, hB2, hk.trans hk2, HU.out, by simp; omega, by omega, by omega⟩
        · rw [if_neg (by omega)] at hU
          have HU : Hid (unf b start pad m' (k + 1) (r ++ [b[k]]) c = some F) := hU
          clear hU
          go_wp2_with (at_builtin; refine wpList_put hB b[k] (b[k].toNat : Int) rfl (by omega) rfl (.tmp 37) (.tmp 39) rfl rfl rfl ?_)
          intro v2 w2 hB2 hk2
          go_wp2
          go_roundg (b.length - (k + 1))
          case measure => omega
          case rel => exact ⟨k + 1, m', _, _, rfl, by omega, by omega, rfl, by go_num, hB2, hk.trans hk2, HU.out, by simp; omega, by omega, by omega⟩
      · obtain ⟨p, rfl⟩ : ∃ p, k = p + 1 := ⟨k - 1, by omega⟩
        have t10 : ((b[p + 1].toNat : Int) != 10) = false := by simp [h10]
        clear h10
        have tS : (((p : Int) + 1) == (start : Int)) = false := by rw [beq_eq_false_iff_ne]; omega
        have hpl : p < b.length := by omega
        have gp := HC.out p hpl
        have tP : ((b[p].toNat : Int) == 32) = false := by
          rw [show p + 1 - 1 = p by omega, bt_lt hpl] at q2
          rw [beq_eq_false_iff_ne]; omega
        have ge := HC.out (p + 1 + 1 + pad) q4
        have tE : ((b[p + 1 + 1 + pad].toNat : Int) == 32) = false := by
          rw [bt_lt q4] at q5
          rw [beq_eq_false_iff_ne]; omega
        have HU : Hid (unf b start pad m' (p + 1 + 1 + pad) (r ++ [32]) pad = some F) := hU
        have HQ6 : Hid (sub b (p + 1 + 1) pad = List.replicate pad 32) := q6
        have e1 : ((p : Int) + 1 + 1 + (pad : Int)).toNat = p + 1 + 1 + pad := by omega
        clear hU q2 q5 q6
        go_wp2_with fail
        go_loopg [16] pad (fun g st wx => wr = wx ∧ ∃ t : Nat, t ≤ pad ∧ g = pad - t ∧ st = .int .i64 ((p + 1 + 1 + t : Nat) : Int))
        case atStart => exact ⟨rfl, 0, Nat.zero_le _, rfl, by go_num⟩
        case round =>
          obtain ⟨rfl, t, ht, rfl, rfl⟩ := hrel
          by_cases htp : t < pad
          · have hti : p + 1 + 1 + t < b.length := by omega
            have gt := HC.out (p + 1 + 1 + t) hti
            have t32 : ((b[p + 1 + 1 + t].toNat : Int) != 32) = false := by
              have := sub_rep HQ6.out hti htp
              simp [this]
            go_wp2
            go_roundg (pad - (t + 1))
            case measure => omega
            case rel => exact ⟨rfl, t + 1, by omega, rfl, by go_num⟩
          · obtain rfl : t = pad := by omega
            go_wp2_with (at_builtin; refine wpList_put hB 32 32 rfl (by omega) rfl (.tmp 94) (.tmp 95) rfl rfl rfl ?_)
            intro v2 w2 hB2 hk2
            go_wp2
            go_roundg (b.length - (p + 1 + 1 + t))
            case measure => omega
            case rel => exact ⟨p + 1 + 1 + t, m', _, _, rfl, by omega, by omega, rfl, by go_num, hB2, hk.trans hk2, HU.out, by simp; omega, by omega, by omega⟩
    · obtain rfl : k = b.length := by omega
      rw [unf_end (Nat.le_refl _)] at hU
      obtain rfl : (r, c) = F := Option.some.inj hU
      clear hU
      go_wp2
      go_ret3
      exact ⟨_, rfl, hB, hk⟩
end Go.Proofs.Qxb6630530a
