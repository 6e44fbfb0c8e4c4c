/-
  The walk of 'FnFormatBlocksParsesBack'.
-/
import Derived.Test.Qxb6630671aDoorRound
import Derived.Deep.DeepCutAuto
import Derived.Deep.CutBlock
namespace Go.Proofs.Qxb6630671aDoor
open Go.RowKit
set_option linter.unusedVariables false
set_option linter.unusedSimpArgs false

theorem tab_onP {w w1 : World} (h : Lib.TabBelow Tryd.prog w.heap.size w "internal/strconv.uint64pow10" .u64 Lib.pow10Tab) (hb : Below w.heap.size w w1) : Lib.TabBelow Tryd.prog w1.heap.size w1 "internal/strconv.uint64pow10" .u64 Lib.pow10Tab :=
  fun w' hw' => h w' (hb.trans (hw'.mono hb.size))

/-- 's[pos:pos+len(pre)]'. -/
theorem sl_sha (s : ByteArray) (Q : Nat) (h : Q + 8 ≤ s.size) (hs : (s.extract (Q + 1) (Q + 1 + 7)).data.toList = sha) (w : World) :
    (Instr.slice 9 (.string s) (some (.int .i64 ((Q : Int) + 1))) (some (.int .i64 ((Q : Int) + 1 + 7))) none).run Tryd.prog w = .ok (.string ⟨#[115, 104, 97, 50, 53, 54, 58]⟩) w := by
  rw [run_slice_string (P := Tryd.prog) w 9 s .i64 .i64 ((Q : Int) + 1) ((Q : Int) + 1 + 7) Tryd.underlying9 (by omega) (by omega) (by omega)]
  have e1 : ((Q : Int) + 1).toNat = Q + 1 := by omega
  have e2 : ((Q : Int) + 1 + 7).toNat = Q + 1 + 7 := by omega
  rw [e1, e2]
  congr 2
  exact Go.WideShapes.bytes_inj hs

theorem hex_at {s : ByteArray} {k p : Nat} {b : Bk} {L : Int} {P1 P N u q : Nat} (hR : Rd s k p L b.2 P1 P N u q) (hok : b.Ok) {w : World} {g o : Nat} (hr : w.rangeAt g o (Bk.cs b)) {E : Nat} (hE : E = P + N + 8) (j : Nat) (hj : j < 32) :
    ∃ (c H Lo : Nat) (h0 : E + 2 * j < s.size) (h1 : E + 2 * j + 1 < s.size), H < 16 ∧ Lo < 16 ∧
      (∀ w, Calls Tryd.prog 9 #[.int .u8 (s[E + 2 * j].toNat : Int)] w fun e w' => e = .returned (.int .i64 (H : Int)) ∧ w' = w) ∧
      (∀ w, Calls Tryd.prog 9 #[.int .u8 (s[E + 2 * j + 1].toNat : Int)] w fun e w' => e = .returned (.int .i64 (Lo : Int)) ∧ w' = w) ∧
      w.cell? ⟨g, o + j, none⟩ = some (.int .u8 ((H : Int) * 16 + (Lo : Int))) := by
  obtain ⟨c, h0, h1, hc, e0, e1⟩ := hR.hex j hj
  subst hE
  have hlt := c.toNat_lt
  refine ⟨c.toNat, c.toNat / 16, c.toNat % 16, h0, h1, by omega, by omega, fun w => ?_, fun w => ?_, ?_⟩
  · rw [e0]; exact hex_any _ (by omega) w
  · rw [e1]; exact hex_any _ (by omega) w
  · have := hr j (.int .u8 (c.toNat : Int)) (by simp [Bk.cs, hc])
    rw [this, show (c.toNat : Int) = ((c.toNat / 16 : Nat) : Int) * 16 + ((c.toNat % 16 : Nat) : Int) by omega]

set_option maxRecDepth 10000 in
set_option maxHeartbeats 4000000 in
theorem walkP (a : Option Addr) (cap : Nat) (bs : List Bk) (w : World) (hB : Bs w (.slice a bs.length cap) bs) (hl : bs.length ≤ 9223372036854775807)
    (htab : Lib.TabBelow Tryd.prog w.heap.size w "internal/strconv.uint64pow10" .u64 Lib.pow10Tab) :
    Calls Tryd.prog 3 #[.slice a bs.length cap] w fun e w' => e = .returned (.bool true) ∧ Below w.heap.size w w' := by
  have HB := hid hB
  have HT := hid htab
  clear hB htab
  go_enter Tryd.func3, Tryd.ntmps3
  go_wp2_with fail
  refine (bytes1_any _ _ _ _ hl).mono ?_
  rintro e w0 ⟨r, rfl, rfl⟩
  cases r
  · go_wp2
    go_ret
    exact ⟨rfl, Below.refl _ _⟩
  by_cases h1 : 16384 < bs.length
  · go_wp2
    go_ret
    exact ⟨rfl, Below.refl _ _⟩
  go_wp2_with fail
  refine (toBlocks_any w0 _ bs HB.out (by omega)).mono ?_
  rintro e w1 ⟨v1, rfl, hB1, hb1⟩
  have HB1 := hid hB1
  have Hb1 := hid hb1
  clear hB1 hb1
  go_wp2_with fail
  refine (fmt_any w1 v1 bs HB1.out (by omega) (tab_onP HT.out Hb1.out)).mono ?_
  rintro e w2 ⟨s, rfl, hs, hb2⟩
  have Hs := hid hs
  have Hb2 : Hid (Below w0.heap.size w0 w2) := Hb1.out.trans (hb2.mono Hb1.out.size)
  have Hok := hid HB.out.1
  have HC : Hid (∀ k (h : k < bs.length), ∃ g off, a = some ⟨g, off, none⟩ ∧ bs.length ≤ cap ∧ w2.cell? ⟨g, off + k * 33, none⟩ = some (.int .i64 bs[k].1) ∧ w2.rangeAt g (off + k * 33 + 1) (Bk.cs bs[k])) := fun k hk => by
    rcases HB.out.2 with ⟨h, _⟩ | ⟨hp, g, off, c, e, hc, hr⟩
    · simp [h] at hk
    · simp only [Value.slice.injEq] at e
      obtain ⟨rfl, _, rfl⟩ := e
      have := rangeAt_cell (rangeAt_below (flat_part HB.out.1 hr k hk) Hb2.out)
      exact ⟨g, off, rfl, hc, this.1, this.2⟩
  have hsz : s.size ≤ 2000000 := by
    have h := txt_le bs Hok.out
    rw [← Hs.out] at h
    have : s.size = s.data.toList.length := rfl
    omega
  clear hs hb2 HB HB1 HT Hb1
  go_wp2_with fail
  go_loopg [4, 5] bs.length (fun g sp si wx => w2 = wx ∧ ∃ k p : Nat, k ≤ bs.length ∧ g = bs.length - k ∧ sp = .int .i64 (p : Int) ∧ si = .int .i64 (k : Int) ∧ p = (txt (bs.take k)).length)
  case atStart => exact ⟨rfl, 0, 0, Nat.zero_le _, rfl, rfl, rfl, rfl⟩
  case round => as_aux_lemma =>
    obtain ⟨rfl, k, p, hk, rfl, rfl, rfl, hp⟩ := hrel
    by_cases hlt : k < bs.length
    · obtain ⟨g, off, rfl, hc, hcell, hrow⟩ := HC.out k hlt
      have hok := Hok.out _ (List.getElem_mem hlt)
      obtain ⟨P1, P, N, u, R⟩ := rd_of s bs Hs.out k hlt p hp hok
      have HR := hid R
      have Hrow := hid hrow
      have HL := hid hok
      obtain ⟨L, hL⟩ : ∃ L, L = bs[k].1 := ⟨_, rfl⟩
      rw [← hL] at hcell HR
      have hLa : -9223372036854775808 ≤ L := by rw [hL]; exact hok.2.1
      have hLb : L ≤ 9223372036854775807 := by rw [hL]; exact hok.2.2
      have hu : u ≤ 9223372036854775808 := by have := HR.out.mag; omega
      have hPr : P + N + 72 ≤ s.size := HR.out.room
      have hN0 := HR.out.N0
      have hN1 := HR.out.N1
      have hP1 : P1 < s.size := by
        by_cases h : L < 0
        · obtain ⟨_, h, _⟩ := HR.out.neg h; exact h
        · obtain ⟨_, h, _⟩ := HR.out.pos h; exact h
      clear hL R hrow hok hp
      go_upto_if 30 with fail
      go_cut [4] (fun s4 wx => w2 = wx ∧ s4 = .int .i64 (P1 : Int))
      case first => as_aux_lemma =>
        by_cases hk0 : k = 0
        · have := HR.out.first hk0
          subst hk0
          subst this
          go_wp2
          go_meet
          exact ⟨rfl, rfl⟩
        · obtain ⟨e1, h0, h1', c0, c1⟩ := HR.out.later (by omega)
          have hkp : 0 < k := by omega
          go_wp2
          go_meet
          exact ⟨rfl, congrArg (Value.int .i64) (by omega)⟩
      case rest => as_aux_lemma =>
        obtain ⟨rfl, rfl⟩ := hcut
        go_upto_if 60 with fail
        go_cut [4, 6] (fun s4 s6 wx => w2 = wx ∧ s4 = .int .i64 (P : Int) ∧ s6 = .bool (decide (L < 0)))
        case first => as_aux_lemma =>
          by_cases hneg : L < 0
          · obtain ⟨e1, h0, c0⟩ := HR.out.neg hneg
            have c1 : ((s[P1].toNat : Int) == 45) = true := by rw [c0]; rfl
            clear c0
            go_wp2
            go_meet
            exact ⟨rfl, congrArg (Value.int .i64) (by omega), by simp [hneg]⟩
          · obtain ⟨e1, h0, c0⟩ := HR.out.pos hneg
            have c1 : ((s[P1].toNat : Int) == 45) = false := by simpa using (show ¬ (s[P1].toNat : Int) = 45 from fun e => c0 (UInt8.toNat_inj.1 (show s[P1].toNat = 45 by omega)))
            clear c0
            go_wp2
            go_meet
            exact ⟨rfl, congrArg (Value.int .i64) (by omega), by simp [hneg]⟩
        case rest => as_aux_lemma =>
          obtain ⟨rfl, rfl, rfl⟩ := hcut
          have hPP : P + N + 72 ≤ s.size := hPr
          clear hP1
          obtain ⟨Q, hQ⟩ : ∃ Q, Q = P + N := ⟨_, rfl⟩
          go_upto_block 2 with fail
          go_cut [4, 8, 9] (fun s4 s8 s9 wx => w2 = wx ∧ s4 = .int .i64 (Q : Int) ∧ s8 = .int .u64 (u : Int))
          case first => as_aux_lemma =>
            go_wp2_with fail
            go_loopg [4, 8] N (fun g sp sm wx => w2 = wx ∧ ∃ j q m : Nat, j ≤ N ∧ g = N - j ∧ q = P + j ∧ m = vl u j ∧ sp = .int .i64 (q : Int) ∧ sm = .int .u64 (m : Int))
            case atStart => exact ⟨rfl, 0, P, 0, Nat.zero_le _, rfl, rfl, HR.out.v0.symm, rfl, rfl⟩
            case round => as_aux_lemma =>
              obtain ⟨rfl, j, q, m, hj, rfl, hq, hm, rfl, rfl⟩ := hrel
              by_cases hjN : j < N
              · obtain ⟨h0, d, hd, hc0, hv⟩ := HR.out.dig j hjN
                have hle := HR.out.vle (j + 1)
                subst hq
                rw [hv, ← hm] at hle
                have Hv : Hid (m * 10 + d = vl u (j + 1)) := by unfold Hid; rw [hv, hm]
                clear hv hm
                go_wp2
                go_roundg (N - (j + 1))
                case measure => omega
                case rel => exact ⟨rfl, j + 1, P + j + 1, m * 10 + d, by omega, rfl, rfl, Hv.out, rfl, congrArg (Value.int .u64) (by omega)⟩
              · obtain rfl : j = N := by omega
                obtain ⟨h0, c0⟩ := HR.out.blank
                rw [HR.out.vN] at hm
                subst hq
                subst hm
                subst hQ
                go_wp2
                go_meet
                exact ⟨rfl, rfl, rfl⟩
          case rest => as_aux_lemma =>
            obtain ⟨rfl, rfl, rfl⟩ := hcut
            have hQ1 : P < Q := by omega
            have hQ2 : Q ≤ P + 20 := by omega
            have hQ3 : Q + 72 ≤ s.size := by omega
            have HQ := hid hQ
            clear hQ hPr hPP hN0 hN1
            go_upto_region 29 with fail
            go_cut [108] (fun s108 wx => w2 = wx ∧ s108 = .bool false)
            case first => as_aux_lemma =>
              by_cases hN : P + 1 < Q
              · obtain ⟨h0, c0⟩ := HR.out.lead (by have := HQ.out; omega)
                have c1 : ((s[P].toNat : Int) == 48) = false := by simpa using (show ¬ (s[P].toNat : Int) = 48 from fun e => c0 (UInt8.toNat_inj.1 (show s[P].toNat = 48 by omega)))
                clear c0
                go_wp2
                go_meet
                exact ⟨rfl, rfl⟩
              · go_wp2
                go_meet
                exact ⟨rfl, rfl⟩
            case rest => as_aux_lemma =>
              obtain ⟨rfl, rfl⟩ := hcut
              go_upto_region 31 with fail
              go_cut [6, 113] (fun s6 s113 wx => w2 = wx ∧ s6 = .bool (decide (L < 0)) ∧ s113 = .bool false)
              case first => as_aux_lemma =>
                by_cases hneg : L < 0
                · have hu0 : ((u : Int) == 0) = false := by
                    have := HR.out.mag
                    simpa using (show ¬ (u : Int) = 0 by omega)
                  go_wp2
                  go_meet
                  exact ⟨rfl, by simp [hneg], rfl⟩
                · go_wp2
                  go_meet
                  exact ⟨rfl, by simp [hneg], rfl⟩
              case rest => as_aux_lemma =>
                obtain ⟨rfl, rfl, rfl⟩ := hcut
                go_upto_region 33 with fail
                go_cut [6, 131] (fun s6 s131 wx => w2 = wx ∧ s6 = .bool (decide (L < 0)) ∧ s131 = .bool false)
                case first => as_aux_lemma =>
                  have hmag : Calls Tryd.prog 8 #[.int .i64 L] w2 fun e w' => e = .returned (.int .u64 (u : Int)) ∧ w' = w2 := by
                    rw [HR.out.mag]; exact mag_any L hLa hLb w2
                  have Hmag := hid hmag
                  clear hmag
                  by_cases hneg : L < 0
                  · go_wp2_with fail
                    refine Hmag.out.mono ?_
                    rintro e wz ⟨rfl, rfl⟩
                    go_wp2
                    go_meet
                    exact ⟨rfl, by simp [hneg], rfl⟩
                  · go_wp2_with fail
                    refine Hmag.out.mono ?_
                    rintro e wz ⟨rfl, rfl⟩
                    go_wp2
                    go_meet
                    exact ⟨rfl, by simp [hneg], rfl⟩
                case rest => as_aux_lemma =>
                  obtain ⟨rfl, rfl, rfl⟩ := hcut
                  obtain ⟨h0, c0⟩ : ∃ h : Q < s.size, s[Q] = 32 := by
                    have := HR.out.blank
                    rwa [← HQ.out] at this
                  have hsl := sl_sha s Q (by omega) (by have := HR.out.sha; rwa [← HQ.out] at this) w2
                  obtain ⟨E, hE⟩ : ∃ E, E = Q + 8 := ⟨_, rfl⟩
                  have hE1 : E + 64 ≤ s.size := by omega
                  have HE := hid hE
                  clear hE
                  go_upto_region 43 with fail
                  go_cut [4, 11] (fun s4 s11 wx => w2 = wx ∧ s4 = .int .i64 (E : Int) ∧ s11 = .int .i64 0)
                  case first => as_aux_lemma =>
                    go_wp2
                    go_meet
                    exact ⟨rfl, congrArg (Value.int .i64) (by have := HE.out; omega), rfl⟩
                  case rest => as_aux_lemma =>
                    clear hsl c0 h0
                    obtain ⟨rfl, rfl, rfl⟩ := hcut
                    go_wp2_with fail
                    go_loopg [11] 32 (fun g sj wx => w2 = wx ∧ ∃ j : Nat, j ≤ 32 ∧ g = 32 - j ∧ sj = .int .i64 (j : Int))
                    case atStart => exact ⟨rfl, 0, by omega, rfl, rfl⟩
                    case round => as_aux_lemma =>
                      obtain ⟨rfl, j, hj, rfl, rfl⟩ := hrel
                      by_cases hjl : j < 32
                      · obtain ⟨c, H, Lo, h0, h1', hH, hLo, hch, hcl, hx⟩ := hex_at HR.out HL.out Hrow.out (E := E) (by rw [HE.out, HQ.out]) j hjl
                        have Hch := hid hch
                        have Hcl := hid hcl
                        clear hch hcl
                        go_wp2_with fail
                        refine (Hch.out w2).mono ?_
                        rintro e wz ⟨rfl, rfl⟩
                        go_wp2_with fail
                        refine (Hcl.out wz).mono ?_
                        rintro e wy ⟨rfl, rfl⟩
                        go_wp2_with fail
                        go_roundg (32 - (j + 1))
                        case measure => omega
                        case rel => exact ⟨rfl, j + 1, by omega, rfl, by go_num⟩
                      · obtain rfl : j = 32 := by omega
                        have hnx := HR.out.next
                        go_wp2
                        go_roundg (bs.length - (k + 1))
                        case measure => omega
                        case rel => exact ⟨rfl, k + 1, E + 64, by omega, rfl, by go_num, by go_num, by rw [hnx, HE.out, HQ.out]⟩
    · obtain rfl : k = bs.length := by omega
      rw [List.take_length, ← Hs.out] at hp
      have hps : p = s.size := hp
      subst hps
      clear hp
      go_wp2
      go_ret
      refine ⟨?_, Hb2.out⟩
      first | rfl | simp
end Go.Proofs.Qxb6630671aDoor
