/-
  The walk of 'FnGetAfterInsertAtAnyPlace'.
-/
import Derived.Test.Qxb6630723aLawS
import Derived.Test.Qxb6630723aMem2
namespace Go.Proofs.Qxb6630723a
open Go.RowKit
set_option linter.unusedVariables false
set_option linter.unusedSimpArgs false

set_option maxRecDepth 10000 in
set_option maxHeartbeats 4000000 in
theorem walkI (kind : Int) (a : Option Addr) (cap : Nat) (ks : List ByteArray) (cut : Int) (key probe : ByteArray) (w : World) (hR : Rs w (.slice a ks.length cap) ks) (hl : ks.length ≤ 9223372036854775807) (hz : ∀ j (h : j < ks.length), ks[j].size ≤ 9223372036854775807) (hkey : key.size ≤ 9223372036854775807) (hprobe : probe.size ≤ 9223372036854775807) :
    Calls Try.prog 4 #[.int .u8 kind, .slice a ks.length cap, .int .i64 cut, .string key, .string probe] w fun e w' => e = .returned (.bool true) ∧ Below w.heap.size w w' := by
  have HC : Hid (∀ j (h : j < ks.length), ∃ b off, a = some ⟨b, off, none⟩ ∧ ks.length ≤ cap ∧ w.cell? ⟨b, off + j, none⟩ = some (.string ks[j])) := by
    intro j hj
    rcases hR with ⟨rfl, _⟩ | ⟨hp, b, off, cap', e, hc, hcell⟩
    · simp at hj
    · simp only [Value.slice.injEq] at e
      obtain ⟨rfl, _, rfl⟩ := e
      exact ⟨b, off, rfl, hc, hcell j hj⟩
  go_enter Try.func4, Try.ntmps4
  go_wp2_with fail
  refine (bytesI_any _ _ ks _ _ _ _ hR hl hz hkey hprobe).mono ?_
  rintro e w0 ⟨r, rfl, rfl, hr⟩
  clear hR hz
  cases r
  · go_wp2
    go_ret
    exact ⟨rfl, Below.refl _ _⟩
  obtain ⟨g1, g2, g2', g3⟩ := hr rfl
  have Hz : Hid (∀ j (h : j < ks.length), ks[j].size ≤ 1048576) := g3
  clear hr g3
  by_cases hA : 65536 < ks.length
  · go_wp2
    go_ret
    exact ⟨rfl, Below.refl _ _⟩
  by_cases hB : 1048576 < (key.size : Int) + (probe.size : Int)
  · go_wp2
    go_ret
    exact ⟨rfl, Below.refl _ _⟩
  go_wp2_with fail
  go_loopg [11, 12] ks.length (fun g sn si wx => w0 = wx ∧ ∃ (k : Nat) (z : Int), k ≤ ks.length ∧ g = ks.length - k ∧ si = .int .i64 k ∧ sn = .int .i64 z ∧ 0 ≤ z ∧ z ≤ 1048576)
  case atStart => exact ⟨rfl, 0, _, Nat.zero_le _, rfl, rfl, rfl, by omega, by omega⟩
  case round =>
    obtain ⟨rfl, k, z, hk, rfl, rfl, rfl, z1, z2⟩ := hrel
    by_cases hlt : k < ks.length
    · obtain ⟨b, off, rfl, hc, hcell⟩ := HC.out k hlt
      have hsz := Hz.out k hlt
      by_cases hbig : 1048576 < z + (8 + (ks[k].size : Int))
      · go_wp2
        go_ret
        exact ⟨rfl, Below.refl _ _⟩
      · go_wp2
        go_roundg (ks.length - (k + 1))
        case measure => omega
        case rel => exact ⟨rfl, k + 1, _, by omega, rfl, by go_num, rfl, by omega, by omega⟩
    · clear z1 z2 Hz
      by_cases hcn : cut < 0
      · go_wp2
        go_ret
        exact ⟨rfl, Below.refl _ _⟩
      obtain ⟨c, rfl⟩ := Int.eq_ofNat_of_zero_le (Int.not_lt.1 hcn)
      clear hcn
      by_cases hcb : ks.length < c
      · go_wp2
        go_ret
        exact ⟨rfl, Below.refl _ _⟩
      have hcc : c ≤ ks.length := by omega
      obtain ⟨w1, hmk1, hb1, hz1⟩ := make_nodes (ks.length + 1) ((ks.length : Int) + 1) (by omega) (by omega) w0
      obtain ⟨w2, hmk2, hb2, hz2, hrow⟩ := make_members ks.length (ks.length : Int) rfl (by omega) ks (fun j => .pointer (some ⟨w0.heap.size, j * 4, none⟩)) w1
      have Hrow : Hid (w2.rowIs w1.heap.size 32 (ks.length * 2) (mRow ks (fun j => .pointer (some ⟨w0.heap.size, j * 4, none⟩)) 0)) := hrow
      have hM : w0.heap.size < w1.heap.size := by omega
      have HZ1 : Hid (w1.heap.size = w0.heap.size + 1) := hz1
      have HZ2 : Hid (w2.heap.size = w1.heap.size + 1) := hz2
      have hb := hb1.trans (hb2.mono (by omega))
      clear hrow hz1 hz2 hb1 hb2
      go_wp2_with fail
      go_loopg [16] ks.length (fun g si wr => ∃ k : Nat, k ≤ ks.length ∧ g = ks.length - k ∧ si = .int .i64 k ∧ wr.rowIs w1.heap.size 32 (ks.length * 2) (mRow ks (fun j => .pointer (some ⟨w0.heap.size, j * 4, none⟩)) k) ∧ Below w0.heap.size w0 wr ∧ wr.heap.size = w1.heap.size + 1)
      case atStart => exact ⟨0, Nat.zero_le _, rfl, rfl, Hrow.out, hb, HZ2.out⟩
      case round =>
        clear hb hmk1 hmk2
        obtain ⟨k, hk, rfl, rfl, hrow, hb, hsz⟩ := hrel
        have HS : Hid (wr.heap.size = w1.heap.size + 1) := hsz
        clear hsz
        by_cases hlt : k < ks.length
        · obtain ⟨b, off, rfl, hc, hcell0⟩ := HC.out k hlt
          have hbb : b < w0.heap.size := World.block_lt_of_cell? w0 _ hcell0
          have hcell : wr.cell? ⟨b, off + k, none⟩ = some (.string ks[k]) := (hb.cell (p := ⟨b, off + k, none⟩) hbb).trans hcell0
          have m1 := hrow.cell (i := k * 2) (by omega)
          have m2 := hrow.cell (i := k * 2 + 1) (by omega)
          have f1 := hrow.frozen (k * 2)
          have f2 := hrow.frozen (k * 2 + 1)
          have i1 : (k : Int) < (ks.length : Int) := by omega
          have i0 : (0 : Int) ≤ (k : Int) := by omega
          have Hst : Hid (((wr.setCell ⟨w1.heap.size, k * 2, none⟩ (.string ks[k])).setCell ⟨w1.heap.size, k * 2 + 1, none⟩ (.pointer (some ⟨w0.heap.size, k * 4, none⟩))).rowIs w1.heap.size 32 (ks.length * 2) (mRow ks (fun j => .pointer (some ⟨w0.heap.size, j * 4, none⟩)) (k + 1))) :=
            ((hrow.set (k * 2) _).set (k * 2 + 1) _).congr fun j _ => mRow_step ks (fun j => .pointer (some ⟨w0.heap.size, j * 4, none⟩)) k hlt j
          have Hb : Hid (Below w0.heap.size w0 ((wr.setCell ⟨w1.heap.size, k * 2, none⟩ (.string ks[k])).setCell ⟨w1.heap.size, k * 2 + 1, none⟩ (.pointer (some ⟨w0.heap.size, k * 4, none⟩)))) := (hb.setCell (Nat.le_of_lt hM) _).setCell (Nat.le_of_lt hM) _
          have HSz : Hid (((wr.setCell ⟨w1.heap.size, k * 2, none⟩ (.string ks[k])).setCell ⟨w1.heap.size, k * 2 + 1, none⟩ (.pointer (some ⟨w0.heap.size, k * 4, none⟩))).heap.size = w1.heap.size + 1) := by unfold Hid; simpa [World.setCell] using HS.out
          clear hrow hb hcell0
          go_wp2_with fail
          go_region
          go_wp2
          go_roundg (ks.length - (k + 1))
          case measure => omega
          case rel => exact ⟨k + 1, by omega, rfl, by go_num, Hst.out, Hb.out.drew, HSz.out⟩
        · obtain rfl : k = ks.length := by omega
          obtain ⟨wm, hwm⟩ : ∃ wm, wm = wr := ⟨_, rfl⟩
          subst hwm
          have hmF := ms_left hrow rfl ks.length (Nat.le_refl _)
          rw [List.take_length] at hmF
          have HMF : Hid (Ms wm (.slice (some ⟨w1.heap.size, 0, none⟩) ks.length ks.length) ks (fun j => ⟨w0.heap.size, j * 4, none⟩)) := hmF
          have HML : Hid (Ms wm (.slice (some ⟨w1.heap.size, 0, none⟩) c ks.length) (ks.take c) (fun j => ⟨w0.heap.size, j * 4, none⟩)) := ms_left hrow rfl c hcc
          have HCM : Hid (∀ j (hj : j < ks.length), wm.cell? ⟨w1.heap.size, j * 2, none⟩ = some (.string ks[j]) ∧ wm.cell? ⟨w1.heap.size, j * 2 + 1, none⟩ = some (.pointer (some ⟨w0.heap.size, j * 4, none⟩))) := fun j hj => row_cells hrow rfl j hj
          clear hmF hrow
          obtain ⟨w3, hmk3, hb3, hz3, hrow3⟩ := make_members (ks.length + 1) ((ks.length : Int) + 1) (by omega) (by omega) (ins ks c key) (fun j => .pointer (some (insQ w0.heap.size ks.length c j))) wm
          have Hrow3 := hid hrow3
          have HZ3 := hid hz3
          have HB3 := hid hb3
          have Hb := hid hb
          clear hrow3 hz3 hb3 hb
          go_wp2_with fail
          go_loopg [18] c (fun g si wx => ∃ k : Nat, k ≤ c ∧ g = c - k ∧ si = .int .i64 k ∧ wx.rowIs wm.heap.size 32 ((ks.length + 1) * 2) (mRow (ins ks c key) (fun j => .pointer (some (insQ w0.heap.size ks.length c j))) k) ∧ Below wm.heap.size wm wx ∧ wx.heap.size = wm.heap.size + 1)
          case atStart => exact ⟨0, Nat.zero_le _, rfl, rfl, Hrow3.out, HB3.out, HZ3.out⟩
          case round =>
            clear HB3 HZ3 Hrow3 hmk3
            obtain ⟨k, hk, rfl, rfl, hrow, hbx, hsx⟩ := hrel
            have HX : Hid (wr.heap.size = wm.heap.size + 1) := hsx
            clear hsx
            by_cases hlt : k < c
            · have hkn : k < ks.length := by omega
              have hMw : w1.heap.size < wm.heap.size := by have := HS.out; omega
              have c1 : wr.cell? ⟨w1.heap.size, k * 2, none⟩ = some (.string ks[k]) := (hbx.cell (p := ⟨w1.heap.size, k * 2, none⟩) hMw).trans (HCM.out k hkn).1
              have c2 : wr.cell? ⟨w1.heap.size, k * 2 + 1, none⟩ = some (.pointer (some ⟨w0.heap.size, k * 4, none⟩)) := (hbx.cell (p := ⟨w1.heap.size, k * 2 + 1, none⟩) hMw).trans (HCM.out k hkn).2
              have m1 := hrow.cell (i := k * 2) (by omega)
              have m2 := hrow.cell (i := k * 2 + 1) (by omega)
              have f1 := hrow.frozen (k * 2)
              have f2 := hrow.frozen (k * 2 + 1)
              have Hst : Hid (((wr.setCell ⟨wm.heap.size, k * 2, none⟩ (.string ks[k])).setCell ⟨wm.heap.size, k * 2 + 1, none⟩ (.pointer (some ⟨w0.heap.size, k * 4, none⟩))).rowIs wm.heap.size 32 ((ks.length + 1) * 2) (mRow (ins ks c key) (fun j => .pointer (some (insQ w0.heap.size ks.length c j))) (k + 1))) := ((hrow.set (k * 2) _).set (k * 2 + 1) _).congr fun j _ => ins_step1 ks w0.heap.size c key hcc k hlt hkn j
              have Hbx : Hid (Below wm.heap.size wm ((wr.setCell ⟨wm.heap.size, k * 2, none⟩ (.string ks[k])).setCell ⟨wm.heap.size, k * 2 + 1, none⟩ (.pointer (some ⟨w0.heap.size, k * 4, none⟩)))) := (hbx.setCell (Nat.le_refl _) _).setCell (Nat.le_refl _) _
              have HSz : Hid (((wr.setCell ⟨wm.heap.size, k * 2, none⟩ (.string ks[k])).setCell ⟨wm.heap.size, k * 2 + 1, none⟩ (.pointer (some ⟨w0.heap.size, k * 4, none⟩))).heap.size = wm.heap.size + 1) := by unfold Hid; simpa [World.setCell] using HX.out
              clear hrow hbx
              go_wp2
              go_roundg (c - (k + 1))
              case measure => omega
              case rel => exact ⟨k + 1, by omega, rfl, by go_num, Hst.out, Hbx.out, HSz.out⟩
            · obtain rfl : c = k := by omega
              have m1 := hrow.cell (i := c * 2) (by omega)
              have m2 := hrow.cell (i := c * 2 + 1) (by omega)
              have f1 := hrow.frozen (c * 2)
              have f2 := hrow.frozen (c * 2 + 1)
              have Hst : Hid (((wr.setCell ⟨wm.heap.size, c * 2, none⟩ (.string key)).setCell ⟨wm.heap.size, c * 2 + 1, none⟩ (.pointer (some ⟨w0.heap.size, ks.length * 4, none⟩))).rowIs wm.heap.size 32 ((ks.length + 1) * 2) (mRow (ins ks c key) (fun j => .pointer (some (insQ w0.heap.size ks.length c j))) (c + 1))) := ((hrow.set (c * 2) _).set (c * 2 + 1) _).congr fun j _ => ins_step2 ks w0.heap.size c key hcc j
              have Hbx : Hid (Below wm.heap.size wm ((wr.setCell ⟨wm.heap.size, c * 2, none⟩ (.string key)).setCell ⟨wm.heap.size, c * 2 + 1, none⟩ (.pointer (some ⟨w0.heap.size, ks.length * 4, none⟩)))) := (hbx.setCell (Nat.le_refl _) _).setCell (Nat.le_refl _) _
              have HSz : Hid (((wr.setCell ⟨wm.heap.size, c * 2, none⟩ (.string key)).setCell ⟨wm.heap.size, c * 2 + 1, none⟩ (.pointer (some ⟨w0.heap.size, ks.length * 4, none⟩))).heap.size = wm.heap.size + 1) := by unfold Hid; simpa [World.setCell] using HX.out
              clear hrow hbx
              go_wp2_with fail
              clear m1 m2 f1 f2
              go_loopg [19] (ks.length - c) (fun g si wx => ∃ k : Nat, c ≤ k ∧ k ≤ ks.length ∧ g = ks.length - k ∧ si = .int .i64 k ∧ wx.rowIs wm.heap.size 32 ((ks.length + 1) * 2) (mRow (ins ks c key) (fun j => .pointer (some (insQ w0.heap.size ks.length c j))) (k + 1)) ∧ Below wm.heap.size wm wx ∧ wx.heap.size = wm.heap.size + 1)
              case atStart => exact ⟨c, Nat.le_refl _, hcc, rfl, rfl, Hst.out, Hbx.out, HSz.out⟩
              case round =>
                clear Hst Hbx HSz HX
                obtain ⟨k, hck, hk, rfl, rfl, hrow, hbx, hsx⟩ := hrel
                have HX : Hid (wr.heap.size = wm.heap.size + 1) := hsx
                clear hsx
                by_cases hkn : k < ks.length
                · have hMw : w1.heap.size < wm.heap.size := by have := HS.out; omega
                  have c1 : wr.cell? ⟨w1.heap.size, k * 2, none⟩ = some (.string ks[k]) := (hbx.cell (p := ⟨w1.heap.size, k * 2, none⟩) hMw).trans (HCM.out k hkn).1
                  have c2 : wr.cell? ⟨w1.heap.size, k * 2 + 1, none⟩ = some (.pointer (some ⟨w0.heap.size, k * 4, none⟩)) := (hbx.cell (p := ⟨w1.heap.size, k * 2 + 1, none⟩) hMw).trans (HCM.out k hkn).2
                  have m1 := hrow.cell (i := (k + 1) * 2) (by omega)
                  have m2 := hrow.cell (i := (k + 1) * 2 + 1) (by omega)
                  have f1 := hrow.frozen ((k + 1) * 2)
                  have f2 := hrow.frozen ((k + 1) * 2 + 1)
                  have Hst : Hid (((wr.setCell ⟨wm.heap.size, (k + 1) * 2, none⟩ (.string ks[k])).setCell ⟨wm.heap.size, (k + 1) * 2 + 1, none⟩ (.pointer (some ⟨w0.heap.size, k * 4, none⟩))).rowIs wm.heap.size 32 ((ks.length + 1) * 2) (mRow (ins ks c key) (fun j => .pointer (some (insQ w0.heap.size ks.length c j))) (k + 1 + 1))) := ((hrow.set ((k + 1) * 2) _).set ((k + 1) * 2 + 1) _).congr fun j _ => ins_step3 ks w0.heap.size c key hcc k hck hkn j
                  have Hbx : Hid (Below wm.heap.size wm ((wr.setCell ⟨wm.heap.size, (k + 1) * 2, none⟩ (.string ks[k])).setCell ⟨wm.heap.size, (k + 1) * 2 + 1, none⟩ (.pointer (some ⟨w0.heap.size, k * 4, none⟩)))) := (hbx.setCell (Nat.le_refl _) _).setCell (Nat.le_refl _) _
                  have HSz : Hid (((wr.setCell ⟨wm.heap.size, (k + 1) * 2, none⟩ (.string ks[k])).setCell ⟨wm.heap.size, (k + 1) * 2 + 1, none⟩ (.pointer (some ⟨w0.heap.size, k * 4, none⟩))).heap.size = wm.heap.size + 1) := by unfold Hid; simpa [World.setCell] using HX.out
                  clear hrow hbx
                  go_wp2
                  go_roundg (ks.length - (k + 1))
                  case measure => omega
                  case rel => exact ⟨k + 1, by omega, by omega, rfl, by go_num, Hst.out, Hbx.out, HSz.out⟩
                · obtain rfl : k = ks.length := by omega
                  have hli := ins_length ks c key hcc
                  have HMA : Hid (Ms wr (.slice (some ⟨wm.heap.size, 0, none⟩) (ks.length + 1) (ks.length + 1)) (ins ks c key) (fun j => insQ w0.heap.size ks.length c j)) := by
                    have := ms_left (ks := ins ks c key) (q := fun j => insQ w0.heap.size ks.length c j) hrow hli (ks.length + 1) (Nat.le_refl _)
                    rwa [List.take_of_length_le (by omega)] at this
                  have HBx := hid hbx
                  clear hrow hbx
                  obtain ⟨vG, HG⟩ : ∃ r, Hid (found (fun j => .pointer (some (insQ w0.heap.size ks.length c j))) probe (ins ks c key) 0 = r) := ⟨_, hid rfl⟩
                  obtain ⟨vO, HO⟩ : ∃ r, Hid (found (fun j => .pointer (some (⟨w0.heap.size, j * 4, none⟩ : Addr))) probe ks 0 = r) := ⟨_, hid rfl⟩
                  obtain ⟨vP, HP⟩ : ∃ r, Hid (found (fun j => .pointer (some (⟨w0.heap.size, j * 4, none⟩ : Addr))) key (ks.take c) 0 = r) := ⟨_, hid rfl⟩
                  have H3 := hid (ins_found w0.heap.size key probe ks c hcc vG vO vP HG.out HO.out HP.out)
                  obtain ⟨W, hW, n1, n2, n3, hbW, hzW⟩ := three_nodes wr kind (.slice (some ⟨w1.heap.size, 0, none⟩) ks.length ks.length) (.slice (some ⟨w1.heap.size, 0, none⟩) c ks.length) (.slice (some ⟨wm.heap.size, 0, none⟩) (ks.length + 1) (ks.length + 1))
                  have HW := hid hW
                  have HWz := hid hzW
                  have N1 := hid n1
                  have N2 := hid n2
                  have N3 := hid n3
                  have HbW := hid hbW
                  clear hW n1 n2 n3 hbW hzW
                  have HBA : Hid (Below wm.heap.size wm W) := HBx.out.trans (HbW.out.mono (by have := HX.out; omega))
                  go_wp2_with fail
                  rw [HW.out]
                  clear HW
                  refine (get_ms W _ _ _ _ probe vG N3.out (HMA.out.below HbW.out) (by omega) HG.out).mono ?_
                  rintro e W1 ⟨rfl, b1⟩
                  have B1 := hid b1
                  clear b1
                  go_wp2_with fail
                  refine (get_ms W1 _ _ _ _ probe vO ((B1.out.cell (p := ⟨wr.heap.size, 2, none⟩) (by have := HWz.out; simp only; omega)).trans N1.out) ((HMF.out.below HBA.out).below B1.out) (by omega) HO.out).mono ?_
                  rintro e W2 ⟨rfl, b2⟩
                  have B2 := hid b2
                  clear b2
                  -- THE FIVE ARMS
                  have HB2 : Hid (Below w0.heap.size w0 W2) := by
                    have s1 := B1.out.size
                    have s3 := HS.out
                    have t1 := HBA.out.size
                    exact Hb.out.trans ((HBA.out.trans ((B1.out.trans (B2.out.mono s1)).mono t1)).mono (by omega))
                  rcases H3.out with ⟨hno, rfl, ⟨e, rfl, rfl⟩ | ⟨e, rfl⟩⟩ | ⟨f, hf, he, rfl, ⟨e, rfl, rfl⟩ | ⟨e, rfl, rfl⟩ | ⟨e, rfl⟩⟩
                  · have Hno := hid hno
                    clear hno H3
                    have hpk : (probe.toList == key.toList) = true := by rw [e]; simp
                    clear e
                    go_wp2_with fail
                    refine (get_ms W2 _ _ _ _ key (.pointer none) ((B2.out.cell (p := ⟨wr.heap.size + 1, 2, none⟩) (by have := HWz.out; have := B1.out.size; simp only; omega)).trans ((B1.out.cell (p := ⟨wr.heap.size + 1, 2, none⟩) (by have := HWz.out; simp only; omega)).trans N2.out)) (((HML.out.below HBA.out).below B1.out).below B2.out) (by simp; omega) HP.out).mono ?_
                    rintro e' W3 ⟨rfl, b3⟩
                    have HBZ : Hid (Below w0.heap.size w0 W3) := by
                      have s1 := B1.out.size
                      have s2 := B2.out.size
                      have s3 := HS.out
                      exact HB2.out.trans (b3.mono (by have := HBA.out.size; omega))
                    clear b3 B1 B2 N1 N2 N3 HbW HMF HML HMA HG HO HP HBA HB2 HBx
                    have hne := ptr_neq ⟨w0.heap.size, ks.length * 4, none⟩ W3
                    go_wp2_with fail
                    go_loopg [26, 27] ks.length (fun g sF si wx => W3 = wx ∧ ∃ (k : Nat) (F : Bool), k ≤ ks.length ∧ g = k ∧ si = .int .i64 ((k : Int) - 1) ∧ sF = .bool F ∧ Inn ks probe k F)
                    case atStart => exact ⟨rfl, ks.length, false, Nat.le_refl _, rfl, by go_num, rfl, Inn_start _ _⟩
                    case round =>
                      clear hne
                      obtain ⟨rfl, m, F, hm, hg, rfl, rfl, hF⟩ := hrel
                      rcases m with _ | m
                      · obtain rfl := Inn_none hF Hno.out
                        go_wp2
                        go_ret
                        exact ⟨rfl, HBZ.out⟩
                      · have hF' := hid hF
                        clear hF
                        obtain ⟨b, off, rfl, hc, hcell0⟩ := HC.out m hm
                        have hbb : b < w0.heap.size := World.block_lt_of_cell? w0 _ hcell0
                        have hcell : W3.cell? ⟨b, off + m, none⟩ = some (.string ks[m]) := (HBZ.out.cell (p := ⟨b, off + m, none⟩) hbb).trans hcell0
                        clear hcell0
                        have e1 : ((m + 1 : Nat) : Int) - 1 = (m : Int) := by omega
                        rw [e1]
                        by_cases hk : ks[m] = probe
                        · have ht : (ks[m].toList == probe.toList) = true := by rw [hk]; simp
                          go_wp2
                          go_roundg m
                          case measure => omega
                          case rel => exact ⟨rfl, m, _, by omega, rfl, by go_num, rfl, Inn_hit hm hk⟩
                        · have ht : (ks[m].toList == probe.toList) = false := by
                            rw [beq_eq_false_iff_ne]; exact fun e => hk (toList_inj e)
                          go_wp2
                          go_roundg m
                          case measure => omega
                          case rel => exact ⟨rfl, m, _, by omega, rfl, by go_num, rfl, Inn_miss hm hk hF'.out⟩
                  · have Hno := hid hno
                    clear hno H3
                    have hne : True := trivial
                    have hpk : (probe.toList == key.toList) = false := by
                      rw [beq_eq_false_iff_ne]; exact fun x => e (toList_inj x)
                    have HBZ := HB2
                    clear B1 B2 N1 N2 N3 HbW HMF HML HMA HG HO HP HBA HB2 HBx
                    go_wp2_with fail
                    go_loopg [26, 27] ks.length (fun g sF si wx => W2 = wx ∧ ∃ (k : Nat) (F : Bool), k ≤ ks.length ∧ g = k ∧ si = .int .i64 ((k : Int) - 1) ∧ sF = .bool F ∧ Inn ks probe k F)
                    case atStart => exact ⟨rfl, ks.length, false, Nat.le_refl _, rfl, by go_num, rfl, Inn_start _ _⟩
                    case round =>
                      clear hne
                      obtain ⟨rfl, m, F, hm, hg, rfl, rfl, hF⟩ := hrel
                      rcases m with _ | m
                      · obtain rfl := Inn_none hF Hno.out
                        go_wp2
                        go_ret
                        exact ⟨rfl, HBZ.out⟩
                      · have hF' := hid hF
                        clear hF
                        obtain ⟨b, off, rfl, hc, hcell0⟩ := HC.out m hm
                        have hbb : b < w0.heap.size := World.block_lt_of_cell? w0 _ hcell0
                        have hcell : W2.cell? ⟨b, off + m, none⟩ = some (.string ks[m]) := (HBZ.out.cell (p := ⟨b, off + m, none⟩) hbb).trans hcell0
                        clear hcell0
                        have e1 : ((m + 1 : Nat) : Int) - 1 = (m : Int) := by omega
                        rw [e1]
                        by_cases hk : ks[m] = probe
                        · have ht : (ks[m].toList == probe.toList) = true := by rw [hk]; simp
                          go_wp2
                          go_roundg m
                          case measure => omega
                          case rel => exact ⟨rfl, m, _, by omega, rfl, by go_num, rfl, Inn_hit hm hk⟩
                        · have ht : (ks[m].toList == probe.toList) = false := by
                            rw [beq_eq_false_iff_ne]; exact fun e => hk (toList_inj e)
                          go_wp2
                          go_roundg m
                          case measure => omega
                          case rel => exact ⟨rfl, m, _, by omega, rfl, by go_num, rfl, Inn_miss hm hk hF'.out⟩
                  · clear H3
                    have hpk : (probe.toList == key.toList) = true := by rw [e]; simp
                    clear e
                    go_wp2_with fail
                    refine (get_ms W2 _ _ _ _ key (.pointer none) ((B2.out.cell (p := ⟨wr.heap.size + 1, 2, none⟩) (by have := HWz.out; have := B1.out.size; simp only; omega)).trans ((B1.out.cell (p := ⟨wr.heap.size + 1, 2, none⟩) (by have := HWz.out; simp only; omega)).trans N2.out)) (((HML.out.below HBA.out).below B1.out).below B2.out) (by simp; omega) HP.out).mono ?_
                    rintro e' W3 ⟨rfl, b3⟩
                    have HBZ : Hid (Below w0.heap.size w0 W3) := by
                      have s1 := B1.out.size
                      have s2 := B2.out.size
                      have s3 := HS.out
                      exact HB2.out.trans (b3.mono (by have := HBA.out.size; omega))
                    clear b3 B1 B2 N1 N2 N3 HbW HMF HML HMA HG HO HP HBA HB2 HBx
                    have hne := ptr_neq ⟨w0.heap.size, ks.length * 4, none⟩ W3
                    go_wp2_with fail
                    go_loopg [26, 27] ks.length (fun g sF si wx => W3 = wx ∧ ∃ (k : Nat) (F : Bool), k ≤ ks.length ∧ g = k ∧ si = .int .i64 ((k : Int) - 1) ∧ sF = .bool F ∧ Inn ks probe k F)
                    case atStart => exact ⟨rfl, ks.length, false, Nat.le_refl _, rfl, by go_num, rfl, Inn_start _ _⟩
                    case round =>
                      clear hne
                      obtain ⟨rfl, m, F, hm, hg, rfl, rfl, hF⟩ := hrel
                      rcases m with _ | m
                      · obtain rfl := Inn_some hF f hf he
                        go_wp2
                        go_ret
                        exact ⟨rfl, HBZ.out⟩
                      · have hF' := hid hF
                        clear hF
                        obtain ⟨b, off, rfl, hc, hcell0⟩ := HC.out m hm
                        have hbb : b < w0.heap.size := World.block_lt_of_cell? w0 _ hcell0
                        have hcell : W3.cell? ⟨b, off + m, none⟩ = some (.string ks[m]) := (HBZ.out.cell (p := ⟨b, off + m, none⟩) hbb).trans hcell0
                        clear hcell0
                        have e1 : ((m + 1 : Nat) : Int) - 1 = (m : Int) := by omega
                        rw [e1]
                        by_cases hk : ks[m] = probe
                        · have ht : (ks[m].toList == probe.toList) = true := by rw [hk]; simp
                          go_wp2
                          go_roundg m
                          case measure => omega
                          case rel => exact ⟨rfl, m, _, by omega, rfl, by go_num, rfl, Inn_hit hm hk⟩
                        · have ht : (ks[m].toList == probe.toList) = false := by
                            rw [beq_eq_false_iff_ne]; exact fun e => hk (toList_inj e)
                          go_wp2
                          go_roundg m
                          case measure => omega
                          case rel => exact ⟨rfl, m, _, by omega, rfl, by go_num, rfl, Inn_miss hm hk hF'.out⟩
                  · clear H3
                    have hpk : (probe.toList == key.toList) = true := by rw [e]; simp
                    clear e
                    go_wp2_with fail
                    refine (get_ms W2 _ _ _ _ key (.pointer (some ⟨w0.heap.size, f * 4, none⟩)) ((B2.out.cell (p := ⟨wr.heap.size + 1, 2, none⟩) (by have := HWz.out; have := B1.out.size; simp only; omega)).trans ((B1.out.cell (p := ⟨wr.heap.size + 1, 2, none⟩) (by have := HWz.out; simp only; omega)).trans N2.out)) (((HML.out.below HBA.out).below B1.out).below B2.out) (by simp; omega) HP.out).mono ?_
                    rintro e' W3 ⟨rfl, b3⟩
                    have HBZ : Hid (Below w0.heap.size w0 W3) := by
                      have s1 := B1.out.size
                      have s2 := B2.out.size
                      have s3 := HS.out
                      exact HB2.out.trans (b3.mono (by have := HBA.out.size; omega))
                    clear b3 B1 B2 N1 N2 N3 HbW HMF HML HMA HG HO HP HBA HB2 HBx
                    have hne := ptr_neq ⟨w0.heap.size, f * 4, none⟩ W3
                    go_wp2_with fail
                    go_loopg [26, 27] ks.length (fun g sF si wx => W3 = wx ∧ ∃ (k : Nat) (F : Bool), k ≤ ks.length ∧ g = k ∧ si = .int .i64 ((k : Int) - 1) ∧ sF = .bool F ∧ Inn ks probe k F)
                    case atStart => exact ⟨rfl, ks.length, false, Nat.le_refl _, rfl, by go_num, rfl, Inn_start _ _⟩
                    case round =>
                      clear hne
                      obtain ⟨rfl, m, F, hm, hg, rfl, rfl, hF⟩ := hrel
                      rcases m with _ | m
                      · obtain rfl := Inn_some hF f hf he
                        go_wp2
                        go_ret
                        exact ⟨rfl, HBZ.out⟩
                      · have hF' := hid hF
                        clear hF
                        obtain ⟨b, off, rfl, hc, hcell0⟩ := HC.out m hm
                        have hbb : b < w0.heap.size := World.block_lt_of_cell? w0 _ hcell0
                        have hcell : W3.cell? ⟨b, off + m, none⟩ = some (.string ks[m]) := (HBZ.out.cell (p := ⟨b, off + m, none⟩) hbb).trans hcell0
                        clear hcell0
                        have e1 : ((m + 1 : Nat) : Int) - 1 = (m : Int) := by omega
                        rw [e1]
                        by_cases hk : ks[m] = probe
                        · have ht : (ks[m].toList == probe.toList) = true := by rw [hk]; simp
                          go_wp2
                          go_roundg m
                          case measure => omega
                          case rel => exact ⟨rfl, m, _, by omega, rfl, by go_num, rfl, Inn_hit hm hk⟩
                        · have ht : (ks[m].toList == probe.toList) = false := by
                            rw [beq_eq_false_iff_ne]; exact fun e => hk (toList_inj e)
                          go_wp2
                          go_roundg m
                          case measure => omega
                          case rel => exact ⟨rfl, m, _, by omega, rfl, by go_num, rfl, Inn_miss hm hk hF'.out⟩
                  · clear H3
                    have hne := ptr_neq ⟨w0.heap.size, f * 4, none⟩ W2
                    have hpk : (probe.toList == key.toList) = false := by
                      rw [beq_eq_false_iff_ne]; exact fun x => e (toList_inj x)
                    have HBZ := HB2
                    clear B1 B2 N1 N2 N3 HbW HMF HML HMA HG HO HP HBA HB2 HBx
                    go_wp2_with fail
                    go_loopg [26, 27] ks.length (fun g sF si wx => W2 = wx ∧ ∃ (k : Nat) (F : Bool), k ≤ ks.length ∧ g = k ∧ si = .int .i64 ((k : Int) - 1) ∧ sF = .bool F ∧ Inn ks probe k F)
                    case atStart => exact ⟨rfl, ks.length, false, Nat.le_refl _, rfl, by go_num, rfl, Inn_start _ _⟩
                    case round =>
                      clear hne
                      obtain ⟨rfl, m, F, hm, hg, rfl, rfl, hF⟩ := hrel
                      rcases m with _ | m
                      · obtain rfl := Inn_some hF f hf he
                        go_wp2
                        go_ret
                        exact ⟨rfl, HBZ.out⟩
                      · have hF' := hid hF
                        clear hF
                        obtain ⟨b, off, rfl, hc, hcell0⟩ := HC.out m hm
                        have hbb : b < w0.heap.size := World.block_lt_of_cell? w0 _ hcell0
                        have hcell : W2.cell? ⟨b, off + m, none⟩ = some (.string ks[m]) := (HBZ.out.cell (p := ⟨b, off + m, none⟩) hbb).trans hcell0
                        clear hcell0
                        have e1 : ((m + 1 : Nat) : Int) - 1 = (m : Int) := by omega
                        rw [e1]
                        by_cases hk : ks[m] = probe
                        · have ht : (ks[m].toList == probe.toList) = true := by rw [hk]; simp
                          go_wp2
                          go_roundg m
                          case measure => omega
                          case rel => exact ⟨rfl, m, _, by omega, rfl, by go_num, rfl, Inn_hit hm hk⟩
                        · have ht : (ks[m].toList == probe.toList) = false := by
                            rw [beq_eq_false_iff_ne]; exact fun e => hk (toList_inj e)
                          go_wp2
                          go_roundg m
                          case measure => omega
                          case rel => exact ⟨rfl, m, _, by omega, rfl, by go_num, rfl, Inn_miss hm hk hF'.out⟩
end Go.Proofs.Qxb6630723a
