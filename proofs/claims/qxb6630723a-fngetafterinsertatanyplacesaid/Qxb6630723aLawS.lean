/-
  The walk of 'FnGetSplitAtAnyCut'.
-/
import Derived.Test.Qxb6630723aMem
import Derived.LaidEqlPtr
import Derived.RegionTactic
import Derived.Deep.RegionHeld3
namespace Go.Proofs.Qxb6630723a
open Go.RowKit
set_option linter.unusedVariables false
set_option linter.unusedSimpArgs false

theorem ptr_eql (p : Addr) (w : World) : (binOp .eql 26 (.pointer (some p)) (.pointer (some p))).run Try.prog w = .ok (.bool true) w := by
  obtain ⟨i, hi, _⟩ := info_parts info30
  exact run_eql_ptr_same w p Try.underlying26 hi
theorem ptr_neq (p : Addr) (w : World) : (binOp .neq 26 (.pointer (some p)) (.pointer (some p))).run Try.prog w = .ok (.bool false) w := by
  obtain ⟨i, hi, _⟩ := info_parts info30
  have h : ∀ d : Nat, (Op.equalIn (d + 1) 26 (.pointer (some p)) (.pointer (some p))).run Try.prog w = .ok true w := fun d => by
    simp [Op.equalIn, run_underlying Try.underlying26, sizeOf, typeInfo, hi, run_sameAddr_same]
  simp only [binOp]
  simp [Op.equal, Op.maxDepth, h 9999]

theorem hid {p : Prop} (h : p) : Hid p := h

set_option maxRecDepth 10000 in
set_option maxHeartbeats 4000000 in
theorem walkS (kind : Int) (a : Option Addr) (cap : Nat) (ks : List ByteArray) (cut : Int) (key : ByteArray) (w : World) (hR : Rs w (.slice a ks.length cap) ks) (hl : ks.length ≤ 9223372036854775807) (hz : ∀ j (h : j < ks.length), ks[j].size ≤ 9223372036854775807) (hkey : key.size ≤ 9223372036854775807) :
    Calls Try.prog 3 #[.int .u8 kind, .slice a ks.length cap, .int .i64 cut, .string key] w fun e w' => e = .returned (.bool true) ∧ Below w.heap.size w w' := by
  have HC : Hid (∀ j (h : j < ks.length), ∃ b off, a = some ⟨b, off, none⟩ ∧ ks.length ≤ cap ∧ w.cell? ⟨b, off + j, none⟩ = some (.string ks[j])) := by
    intro j hj
    rcases hR with ⟨rfl, _⟩ | ⟨hp, b, off, cap', e, hc, hcell⟩
    · simp at hj
    · simp only [Value.slice.injEq] at e
      obtain ⟨rfl, _, rfl⟩ := e
      exact ⟨b, off, rfl, hc, hcell j hj⟩
  go_enter Try.func3, Try.ntmps3
  go_wp2_with fail
  refine (bytesS_any _ _ ks _ _ _ hR hl hz hkey).mono ?_
  rintro e w0 ⟨r, rfl, rfl, hr⟩
  clear hR hz
  cases r
  · go_wp2
    go_ret
    exact ⟨rfl, Below.refl _ _⟩
  obtain ⟨g1, g2, g3⟩ := hr rfl
  have Hz : Hid (∀ j (h : j < ks.length), ks[j].size ≤ 1048576) := g3
  clear hr g3
  by_cases hA : 65536 < ks.length
  · go_wp2
    go_ret
    exact ⟨rfl, Below.refl _ _⟩
  go_wp2_with fail
  go_loopg [9, 10] ks.length (fun g sn si wx => w0 = wx ∧ ∃ (k : Nat) (z : Int), k ≤ ks.length ∧ g = ks.length - k ∧ si = .int .i64 k ∧ sn = .int .i64 z ∧ 0 ≤ z ∧ z ≤ 1048576)
  case atStart => exact ⟨rfl, 0, _, Nat.zero_le _, rfl, rfl, rfl, by omega, by omega⟩
  case round =>
    obtain ⟨rfl, k, z, hk, rfl, rfl, rfl, z1, z2⟩ := hrel
    by_cases hlt : k < ks.length
    · obtain ⟨b, off, rfl, hc, hcell⟩ := HC.out k hlt
      have hsz := Hz.out k hlt
      by_cases hbig : 1048576 < z + (8 + (ks[k].size : Int))
      · go_wp2
        go_ret
        exact ⟨rfl, Below.refl _ _⟩
      · go_wp2
        go_roundg (ks.length - (k + 1))
        case measure => omega
        case rel => exact ⟨rfl, k + 1, _, by omega, rfl, by go_num, rfl, by omega, by omega⟩
    · clear z1 z2 Hz
      by_cases hcn : cut < 0
      · go_wp2
        go_ret
        exact ⟨rfl, Below.refl _ _⟩
      obtain ⟨c, rfl⟩ := Int.eq_ofNat_of_zero_le (Int.not_lt.1 hcn)
      clear hcn
      by_cases hcb : ks.length < c
      · go_wp2
        go_ret
        exact ⟨rfl, Below.refl _ _⟩
      obtain ⟨w1, hmk1, hb1, hz1⟩ := make_nodes ks.length (ks.length : Int) rfl (by omega) w0
      obtain ⟨w2, hmk2, hb2, hz2, hrow⟩ := make_members ks.length (ks.length : Int) rfl (by omega) ks (fun j => .pointer (some ⟨w0.heap.size, j * 4, none⟩)) w1
      have Hrow : Hid (w2.rowIs w1.heap.size 32 (ks.length * 2) (mRow ks (fun j => .pointer (some ⟨w0.heap.size, j * 4, none⟩)) 0)) := hrow
      have hM : w0.heap.size < w1.heap.size := by omega
      have HZ1 : Hid (w1.heap.size = w0.heap.size + 1) := hz1
      have HZ2 : Hid (w2.heap.size = w1.heap.size + 1) := hz2
      have hb := hb1.trans (hb2.mono (by omega))
      clear hrow hz1 hz2 hb1 hb2
      go_wp2_with fail
      go_loopg [13] ks.length (fun g si wr => ∃ k : Nat, k ≤ ks.length ∧ g = ks.length - k ∧ si = .int .i64 k ∧ wr.rowIs w1.heap.size 32 (ks.length * 2) (mRow ks (fun j => .pointer (some ⟨w0.heap.size, j * 4, none⟩)) k) ∧ Below w0.heap.size w0 wr ∧ wr.heap.size = w1.heap.size + 1)
      case atStart => exact ⟨0, Nat.zero_le _, rfl, rfl, Hrow.out, hb, HZ2.out⟩
      case round =>
        clear hb hmk1 hmk2
        obtain ⟨k, hk, rfl, rfl, hrow, hb, hsz⟩ := hrel
        have HS : Hid (wr.heap.size = w1.heap.size + 1) := hsz
        clear hsz
        by_cases hlt : k < ks.length
        · obtain ⟨b, off, rfl, hc, hcell0⟩ := HC.out k hlt
          have hbb : b < w0.heap.size := World.block_lt_of_cell? w0 _ hcell0
          have hcell : wr.cell? ⟨b, off + k, none⟩ = some (.string ks[k]) := (hb.cell (p := ⟨b, off + k, none⟩) hbb).trans hcell0
          have m1 := hrow.cell (i := k * 2) (by omega)
          have m2 := hrow.cell (i := k * 2 + 1) (by omega)
          have f1 := hrow.frozen (k * 2)
          have f2 := hrow.frozen (k * 2 + 1)
          have i1 : (k : Int) < (ks.length : Int) := by omega
          have i0 : (0 : Int) ≤ (k : Int) := by omega
          have Hst : Hid (((wr.setCell ⟨w1.heap.size, k * 2, none⟩ (.string ks[k])).setCell ⟨w1.heap.size, k * 2 + 1, none⟩ (.pointer (some ⟨w0.heap.size, k * 4, none⟩))).rowIs w1.heap.size 32 (ks.length * 2) (mRow ks (fun j => .pointer (some ⟨w0.heap.size, j * 4, none⟩)) (k + 1))) :=
            ((hrow.set (k * 2) _).set (k * 2 + 1) _).congr fun j _ => mRow_step ks (fun j => .pointer (some ⟨w0.heap.size, j * 4, none⟩)) k hlt j
          have Hb : Hid (Below w0.heap.size w0 ((wr.setCell ⟨w1.heap.size, k * 2, none⟩ (.string ks[k])).setCell ⟨w1.heap.size, k * 2 + 1, none⟩ (.pointer (some ⟨w0.heap.size, k * 4, none⟩)))) := (hb.setCell (Nat.le_of_lt hM) _).setCell (Nat.le_of_lt hM) _
          have HSz : Hid (((wr.setCell ⟨w1.heap.size, k * 2, none⟩ (.string ks[k])).setCell ⟨w1.heap.size, k * 2 + 1, none⟩ (.pointer (some ⟨w0.heap.size, k * 4, none⟩))).heap.size = w1.heap.size + 1) := by unfold Hid; simpa [World.setCell] using HS.out
          clear hrow hb hcell0
          go_wp2_with fail
          go_region
          go_wp2
          go_roundg (ks.length - (k + 1))
          case measure => omega
          case rel => exact ⟨k + 1, by omega, rfl, by go_num, Hst.out, Hb.out.drew, HSz.out⟩
        · obtain rfl : k = ks.length := by omega
          have hcc : c ≤ ks.length := by omega
          obtain ⟨vF, HF⟩ : ∃ r, Hid (found (fun j => .pointer (some (⟨w0.heap.size, j * 4, none⟩ : Addr))) key ks 0 = r) := ⟨_, hid rfl⟩
          obtain ⟨vL, HL⟩ : ∃ r, Hid (found (fun j => .pointer (some (⟨w0.heap.size, j * 4, none⟩ : Addr))) key (ks.take c) 0 = r) := ⟨_, hid rfl⟩
          obtain ⟨vR, HRr⟩ : ∃ r, Hid (found (fun j => .pointer (some (⟨w0.heap.size, (c + j) * 4, none⟩ : Addr))) key (ks.drop c) 0 = r) := ⟨_, hid rfl⟩
          have H3 := hid (three_found (fun j => ⟨w0.heap.size, j * 4, none⟩) key ks c hcc vF vL vR HF.out HL.out HRr.out)
          have hmF := ms_left hrow rfl ks.length (Nat.le_refl _)
          rw [List.take_length] at hmF
          have hmL := ms_left hrow rfl c hcc
          have HMF : Hid (Ms wr (.slice (some ⟨w1.heap.size, 0, none⟩) ks.length ks.length) ks (fun j => ⟨w0.heap.size, j * 4, none⟩)) := hmF
          have HML : Hid (Ms wr (.slice (some ⟨w1.heap.size, 0, none⟩) c ks.length) (ks.take c) (fun j => ⟨w0.heap.size, j * 4, none⟩)) := hmL
          clear hmF hmL
          rcases Nat.lt_or_ge c ks.length with hc' | hc'
          case' inl =>
            have HM3 : Hid (Ms wr (.slice (some ⟨w1.heap.size, c * 2, none⟩) (ks.length - c) (ks.length - c)) (ks.drop c) (fun j => ⟨w0.heap.size, (c + j) * 4, none⟩)) := ms_right hrow rfl c hc'
            obtain ⟨W, hW, n1, n2, n3, hbW, hzW⟩ := three_nodes wr kind (.slice (some ⟨w1.heap.size, 0, none⟩) ks.length ks.length) (.slice (some ⟨w1.heap.size, 0, none⟩) c ks.length) (.slice (some ⟨w1.heap.size, c * 2, none⟩) (ks.length - c) (ks.length - c))
          case' inr =>
            obtain rfl : c = ks.length := by omega
            have HM3 : Hid (Ms wr (.slice (some ⟨w1.heap.size, 0, none⟩) 0 0) (ks.drop ks.length) (fun j => ⟨w0.heap.size, (ks.length + j) * 4, none⟩)) := .inl ⟨by simp, _, _, rfl⟩
            obtain ⟨W, hW, n1, n2, n3, hbW, hzW⟩ := three_nodes wr kind (.slice (some ⟨w1.heap.size, 0, none⟩) ks.length ks.length) (.slice (some ⟨w1.heap.size, 0, none⟩) ks.length ks.length) (.slice (some ⟨w1.heap.size, 0, none⟩) 0 0)
          all_goals
            clear hrow
            have HWz : Hid (W.heap.size = wr.heap.size + 1 + 1 + 1) := hzW
            have N1 := hid n1
            have N2 := hid n2
            have N3 := hid n3
            have HbW := hid hbW
            have Hb := hid hb
            clear n1 n2 n3 hbW hb hzW
            have HW := hid hW
            clear hW
            go_wp2_with fail
            rw [HW.out]
            clear HW
            refine (get_ms W _ _ _ _ key vF N1.out (HMF.out.below HbW.out) (by omega) HF.out).mono ?_
            rintro e W1 ⟨rfl, b1⟩
            have B1 := hid b1
            clear b1
            go_wp2_with fail
            refine (get_ms W1 _ _ _ _ key vL ((B1.out.cell (p := ⟨wr.heap.size + 1, 2, none⟩) (by have := HWz.out; simp only; omega)).trans N2.out) ((HML.out.below HbW.out).below B1.out) (by simp; omega) HL.out).mono ?_
            rintro e W2 ⟨rfl, b2⟩
            have B2 := hid b2
            clear b2
            go_wp2_with fail
            refine (get_ms W2 _ _ _ _ key vR ((B2.out.cell (p := ⟨wr.heap.size + 1 + 1, 2, none⟩) (by have := HWz.out; have := B1.out.size; simp only; omega)).trans ((B1.out.cell (p := ⟨wr.heap.size + 1 + 1, 2, none⟩) (by have := HWz.out; simp only; omega)).trans N3.out)) (((HM3.out.below HbW.out).below B1.out).below B2.out) (by simp <;> omega) HRr.out).mono ?_
            rintro e W3 ⟨rfl, b3⟩
            have HB3 : Hid (Below w0.heap.size w0 W3) := by
              have s1 := B1.out.size
              have s2 := B2.out.size
              have s3 := HWz.out
              have s4 := HS.out
              have t1 := (b3.mono (show W.heap.size ≤ W2.heap.size by omega))
              have t2 := (B1.out.trans (B2.out.mono s1)).trans t1
              exact Hb.out.trans ((HbW.out.trans (t2.mono (by omega))).mono (by omega))
            clear b3 B1 B2 N1 N2 N3 HbW HM3 HMF HML HRr HL HF
            rcases H3.out with ⟨hno, rfl, rfl, rfl⟩ | ⟨f, hf, he, hall, rfl, hLR⟩
            · have Hno : Hid (∀ j (h : j < ks.length), ks[j] ≠ key) := hno
              clear hno H3
              go_wp2_with fail
              go_loopg [21, 22] ks.length (fun g sF si wx => W3 = wx ∧ ∃ (k : Nat) (F : Int), k ≤ ks.length ∧ g = k ∧ si = .int .i64 ((k : Int) - 1) ∧ sF = .int .i64 F ∧ Fst ks key k F)
              case atStart => exact ⟨rfl, ks.length, -1, Nat.le_refl _, rfl, by go_num, rfl, Fst_start _ _⟩
              case round =>
                obtain ⟨rfl, m, F, hm, hg, rfl, rfl, hF⟩ := hrel
                rcases m with _ | m
                · obtain rfl := Fst_none hF Hno.out
                  go_wp2
                  go_ret
                  exact ⟨rfl, HB3.out⟩
                · have hF' := hid hF
                  clear hF
                  obtain ⟨b, off, rfl, hc, hcell0⟩ := HC.out m hm
                  have hbb : b < w0.heap.size := World.block_lt_of_cell? w0 _ hcell0
                  have hcell : W3.cell? ⟨b, off + m, none⟩ = some (.string ks[m]) := (HB3.out.cell (p := ⟨b, off + m, none⟩) hbb).trans hcell0
                  clear hcell0
                  have e1 : ((m + 1 : Nat) : Int) - 1 = (m : Int) := by omega
                  rw [e1]
                  by_cases hk : ks[m] = key
                  · have ht : (ks[m].toList == key.toList) = true := by rw [hk]; simp
                    go_wp2
                    go_roundg m
                    case measure => omega
                    case rel => exact ⟨rfl, m, _, by omega, rfl, by go_num, rfl, Fst_hit hm hk⟩
                  · have ht : (ks[m].toList == key.toList) = false := by
                      rw [beq_eq_false_iff_ne]; exact fun e => hk (toList_inj e)
                    go_wp2
                    go_roundg m
                    case measure => omega
                    case rel => exact ⟨rfl, m, _, by omega, rfl, by go_num, rfl, Fst_miss hm hk hF'.out⟩
            · have hne := ptr_neq ⟨w0.heap.size, f * 4, none⟩ W3
              have heq := ptr_eql ⟨w0.heap.size, f * 4, none⟩ W3
              have Hall : Hid (∀ j (h : j < ks.length), j < f → ks[j] ≠ key) := hall
              clear hall H3
              rcases hLR with rfl | ⟨rfl, rfl⟩
              all_goals
                go_wp2_with fail
                go_loopg [21, 22] ks.length (fun g sF si wx => W3 = wx ∧ ∃ (k : Nat) (F : Int), k ≤ ks.length ∧ g = k ∧ si = .int .i64 ((k : Int) - 1) ∧ sF = .int .i64 F ∧ Fst ks key k F)
                case atStart => exact ⟨rfl, ks.length, -1, Nat.le_refl _, rfl, by go_num, rfl, Fst_start _ _⟩
                case round =>
                  obtain ⟨rfl, m, F, hm, hg, rfl, rfl, hF⟩ := hrel
                  rcases m with _ | m
                  · obtain rfl := Fst_some hF f hf he Hall.out
                    go_wp2
                    go_ret
                    exact ⟨rfl, HB3.out⟩
                  · have hF' := hid hF
                    clear hF
                    obtain ⟨b, off, rfl, hc, hcell0⟩ := HC.out m hm
                    have hbb : b < w0.heap.size := World.block_lt_of_cell? w0 _ hcell0
                    have hcell : W3.cell? ⟨b, off + m, none⟩ = some (.string ks[m]) := (HB3.out.cell (p := ⟨b, off + m, none⟩) hbb).trans hcell0
                    clear hcell0
                    have e1 : ((m + 1 : Nat) : Int) - 1 = (m : Int) := by omega
                    rw [e1]
                    by_cases hk : ks[m] = key
                    · have ht : (ks[m].toList == key.toList) = true := by rw [hk]; simp
                      go_wp2
                      go_roundg m
                      case measure => omega
                      case rel => exact ⟨rfl, m, _, by omega, rfl, by go_num, rfl, Fst_hit hm hk⟩
                    · have ht : (ks[m].toList == key.toList) = false := by
                        rw [beq_eq_false_iff_ne]; exact fun e => hk (toList_inj e)
                      go_wp2
                      go_roundg m
                      case measure => omega
                      case rel => exact ⟨rfl, m, _, by omega, rfl, by go_num, rfl, Fst_miss hm hk hF'.out⟩
end Go.Proofs.Qxb6630723a
