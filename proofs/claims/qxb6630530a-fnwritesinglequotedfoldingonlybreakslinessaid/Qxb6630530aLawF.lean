/-
  The walk of 'FnWriteSingleQuotedFoldingOnlyBreaksLines'.
-/
import Derived.Test.Qxb6630530aTwo
import Derived.Test.Qxb6630530aFLaw
import Derived.Test.Qxb6630530aUnf
import Derived.Test.Qxb6630530aValid
import Derived.Deep.DeepCutAuto
namespace Go.Proofs.Qxb6630530a.Two
open Go.RowKit
set_option linter.unusedVariables false

/-- An owned row that is not empty, cell by cell. -/
theorem own_slice {w : World} {v : Value} {l : List UInt8} (h : w.ownsRow 0 5 1 v l.length (bv l)) (hp : 0 < l.length) :
    ∃ g cap, v = .slice (some ⟨g, 0, none⟩) l.length cap ∧ l.length ≤ cap ∧ cap ≤ 9223372036854775807 ∧ ∀ j (hj : j < l.length), w.cell? ⟨g, 0 + j, none⟩ = some (.int .u8 (l[j].toNat : Int)) := by
  rcases h.2 with ⟨rfl, h0⟩ | ⟨g, cap, cur, rfl, hb, hg, hc, hm, hs, ht⟩
  · omega
  · refine ⟨g, cap, rfl, hc, by unfold maxLen at hm; omega, fun j hj => ?_⟩
    have := h.cells (g := g) rfl j (.int .u8 (l[j].toNat : Int)) (by simp [bv, hj])
    rw [Addr.add_lit] at this
    exact this

theorem pad_of (ind : Int) (h : ind ≤ 65536) : ∃ pad : Nat, Hid (max ind 0 = (pad : Int)) ∧ pad ≤ 65536 := ⟨(max ind 0).toNat, by unfold Hid; omega, by omega⟩

set_option maxRecDepth 10000 in
set_option maxHeartbeats 20000000 in
theorem walkF (a0 : Option Addr) (cap0 : Nat) (l : List UInt8) (w : World) (hR : Rd w (.slice a0 l.length cap0) l) (hl : l.length ≤ 9223372036854775807) (col ind : Int) (ws inn : Bool) (s : ByteArray) (hs : s.size ≤ 9223372036854775807)
    (i1 : -9223372036854775808 ≤ ind) (i2 : ind ≤ 9223372036854775807) :
    Calls Try.prog 4 #[.slice a0 l.length cap0, .int .i64 col, .int .i64 ind, .bool ws, .bool inn, .string s] w fun e w' => e = .returned (.bool true) ∧ Below w.heap.size w w' := by
  go_enter Try.func4, Try.ntmps4
  go_wp2_with fail
  refine (bytesF_any _ _ _ _ _ _ _ _ _ hl hs).mono ?_
  rintro e w0 ⟨r, rfl, rfl⟩
  cases r
  · go_wp2
    go_ret
    exact ⟨rfl, Below.refl _ _⟩
  by_cases hA : 1048576 < l.length
  · go_wp2
    go_ret
    exact ⟨rfl, Below.refl _ _⟩
  by_cases hB : 1048576 - l.length < s.size
  · go_wp2
    go_ret
    exact ⟨rfl, Below.refl _ _⟩
  by_cases hc1 : col < -1073741824
  · go_wp2
    go_ret
    exact ⟨rfl, Below.refl _ _⟩
  by_cases hc2 : 1073741824 < col
  · go_wp2
    go_ret
    exact ⟨rfl, Below.refl _ _⟩
  by_cases hi1 : 65536 < ind
  · go_wp2
    go_ret
    exact ⟨rfl, Below.refl _ _⟩
  have hs2 : s.size ≤ 1048576 := by omega
  have hl2 : l.length ≤ 1048576 := by omega
  obtain ⟨pad, hmx, hpn⟩ := pad_of ind (by omega)
  go_upto_if 61 with fail
  go_cut [13] (fun sp wx => w0 = wx ∧ sp = .int .i64 (pad : Int))
  case first =>
    by_cases hneg : ind < 0
    · have hz : Hid ((pad : Int) = 0) := by have := hmx.out; unfold Hid; omega
      go_wp2
      go_meet
      exact ⟨rfl, by rw [hz.out]⟩
    · have hz : Hid ((pad : Int) = ind) := by have := hmx.out; unfold Hid; omega
      go_wp2
      go_meet
      exact ⟨rfl, by rw [hz.out]⟩
  case rest =>
    obtain ⟨rfl, rfl⟩ := hcut
    go_upto_region 14 with fail
    go_cut [70] (fun sp wx => w0 = wx ∧ ∃ b : Bool, sp = .bool b)
    case first =>
      by_cases hp0 : 0 < pad
      · go_wp2
        go_meet
        exact ⟨rfl, _, rfl⟩
      · go_wp2
        go_meet
        exact ⟨rfl, _, rfl⟩
    case rest =>
      obtain ⟨rfl, b, rfl⟩ := hcut
      cases b
      case true =>
        go_wp2
        go_ret
        exact ⟨rfl, Below.refl _ _⟩
      case false =>
        go_wp2_with fail
        refine (valid_any s _ hs2).mono ?_
        rintro e wv ⟨r, rfl, hVr, rfl⟩
        cases r
        · go_wp2
          go_ret
          exact ⟨rfl, Below.refl _ _⟩
        have HV : Hid (V s.data.toList 0) := hVr rfl
        have HL : Hid (s.data.toList.length = s.size) := by simp [Hid]
        clear hVr
        go_wp2_with fail
        go_loopg [14] s.size (fun g sj wx => wv = wx ∧ ∃ j : Nat, j ≤ s.size ∧ g = s.size - j ∧ sj = .int .i64 j ∧ ∀ t, t < j → brk s.data.toList t = 0)
        case atStart => exact ⟨rfl, 0, Nat.zero_le _, rfl, rfl, fun t h => by omega⟩
        case round =>
          obtain ⟨rfl, j, hjs, rfl, rfl, hall⟩ := hrel
          have Hall : Hid (∀ t, t < j → brk s.data.toList t = 0) := hall
          clear hall
          by_cases hlt : j < s.size
          · obtain ⟨q, HQ⟩ : ∃ q, Hid (brk s.data.toList j = q) := ⟨_, hid rfl⟩
            by_cases hq : q = 0
            · subst hq
              go_wp2_with fail
              refine (breakLen_any s j _ hlt hs2).mono ?_
              rintro e w' ⟨rfl, rfl⟩
              rw [HQ.out]
              go_wp2
              go_roundg (s.size - (j + 1))
              case measure => omega
              case rel =>
                refine ⟨rfl, j + 1, by omega, rfl, by go_num, fun t h => ?_⟩
                by_cases e : t = j
                · subst e; exact HQ.out
                · exact Hall.out t (by omega)
            · have t0 : ((q : Int) != 0) = true := by rw [bne_iff_ne]; omega
              go_wp2_with fail
              refine (breakLen_any s j _ hlt hs2).mono ?_
              rintro e w' ⟨rfl, rfl⟩
              rw [HQ.out]
              go_wp2
              go_ret
              exact ⟨rfl, Below.refl _ _⟩
          · have HNB : Hid (∀ t, t < s.data.toList.length → brk s.data.toList t = 0) := fun t h => Hall.out t (by rw [HL.out] at h; omega)
            clear Hall
            go_wp2_with fail
            obtain ⟨RT, HST⟩ : ∃ R, Hid (scalar s.data.toList pad true ws l col = R) := ⟨_, hid rfl⟩
            obtain ⟨WB, HWB⟩ : ∃ R, Hid (want s.data.toList ws l = R) := ⟨_, hid rfl⟩
            obtain ⟨WC, HWC⟩ : ∃ R, Hid (wantC s.data.toList ws col = R) := ⟨_, hid rfl⟩
            have HSF : Hid (scalar s.data.toList pad false ws l col = (WB, WC)) := by rw [← HWB.out, ← HWC.out]; exact scalar_plain _ _ _ _ _ HV.out HNB.out
            have hTl : Hid (RT.1.length ≤ 100000000000) := by rw [← HST.out]; exact scalar_len _ _ hpn _ _ _ _ HV.out (by rw [HL.out]; exact hs2) hl2
            have hFl : Hid (WB.length ≤ 100000000000) := by
              have := scalar_len s.data.toList pad hpn false ws l col HV.out (by rw [HL.out]; exact hs2) hl2
              rw [HSF.out] at this; exact this
            have hU := scalar_unf s.data.toList pad ws l col HV.out HNB.out
            rw [HST.out, HWB.out] at hU
            obtain ⟨hgt, m, hunf⟩ := hU
            have HUN : Hid (unf RT.1 l.length pad m l.length (RT.1.take l.length) col = some (WB, RT.2)) := hunf
            clear hunf HNB
            refine (clone_any _ _ l hR (by omega)).mono ?_
            rintro e w1 ⟨v1, rfl, hB1, hk1⟩
            obtain ⟨x1, p1, rfl⟩ := hB1.slice
            obtain ⟨vb, wb, hmk, hvb, hBb, hkb⟩ := make_cap (l.length + 2 * s.size + 3) ((l.length : Int) + 2 * (s.size : Int) + 3) (by omega) (by omega) w1
            have Hvb : Hid (vb ≠ .slice none 0 0) := hvb
            clear hvb hR
            go_wp2_with (at_builtin; refine wpList_app (m := l) hBb (Src_rd (hB1.rd.below hkb)) (by simp; omega) (fun e => absurd e Hvb.out) rfl (.tmp 94) (.tmp 95) rfl rfl rfl ?_)
            intro v2 w2 hB2 hk2
            replace hk2 := hkb.trans hk2
            clear hBb hkb hmk Hvb
            go_upto_if 99 with fail
            go_cut [15, 16] (fun sb sc wx => ∃ (lW : List UInt8) (cW : Int), sc = .int .i64 cW ∧ Bf (fun k => k < w1.heap.size) wx sb lW ∧ Keep (fun k => k < w1.heap.size) w1 wx ∧ lW ++ [39] = pre ws l ∧ cW + 1 = preC ws col ∧ lW.length ≤ 1048577 ∧ -1073741824 ≤ cW ∧ cW ≤ 1073741825)
            case first =>
              cases ws
              · go_wp2_with (at_builtin; refine wpList_put hB2 32 32 rfl (by omega) rfl (.tmp 100) (.tmp 101) rfl rfl rfl ?_)
                intro v3 w3 hB3 hk3
                go_wp2
                go_meet
                exact ⟨_, _, rfl, hB3, hk2.trans hk3, rfl, rfl, by simp; omega, by omega, by omega⟩
              · go_wp2
                go_meet
                exact ⟨_, _, rfl, hB2, hk2, rfl, rfl, by omega, by omega, by omega⟩
            case rest =>
              clear hB2 hk2
              obtain ⟨lW, cW, rfl, hB2, hk2, eW, eC, q1, q2, q3⟩ := hcut
              have HEW : Hid (lW ++ [39] = pre ws l) := eW
              have HEC : Hid (cW + 1 = preC ws col) := eC
              clear eW eC
              go_wp2_with (at_builtin; refine wpList_put hB2 39 39 rfl (by omega) rfl (.tmp 105) (.tmp 106) rfl rfl rfl ?_)
              intro v3 w3 hB3 hk3
              rw [HEW.out] at hB3
              have hk := hk2.trans hk3
              have hpl : Hid ((pre ws l).length ≤ 1048578) := by rw [← HEW.out]; unfold Hid; simp; omega
              clear hk2 hk3 hB2 HEW
              go_wp2_with fail
              go_loopg [15, 16, 17] s.size (fun g sb sc sj wx => ∃ (j : Nat) (X : Int), j ≤ s.size ∧ g = s.size - j ∧ sj = .int .i64 j ∧ sc = .int .i64 X ∧ X = preC ws col + cnt (s.data.toList.take j) ∧ Bf (fun k => k < w1.heap.size) wx sb (pre ws l ++ dbl (s.data.toList.take j)) ∧ Keep (fun k => k < w1.heap.size) w1 wx ∧ -1073741824 ≤ X ∧ X ≤ 1073741826 + 2 * j)
              case atStart => exact ⟨0, cW + 1, Nat.zero_le _, rfl, rfl, rfl, by rw [HEC.out]; simp [cnt], by simpa [dbl] using hB3, hk, by omega, by omega⟩
              case round =>
                clear hB3 hk
                obtain ⟨j, X, hjs, rfl, rfl, rfl, eX, hB, hk, z1, z2⟩ := hrel
                have HX : Hid (X = preC ws col + cnt (s.data.toList.take j)) := eX
                clear eX
                have hBl : (pre ws l ++ dbl (s.data.toList.take j)).length ≤ 300000000 := by
                  have h5 := dbl_len (s.data.toList.take j)
                  have h6 := hpl.out
                  have h7 : (s.data.toList.take j).length ≤ j := by simp; omega
                  rw [List.length_append]; omega
                by_cases hlt2 : j < s.size
                · have HD : Hid (dbl (s.data.toList.take (j + 1)) = dbl (s.data.toList.take j) ++ dbl1 s[j]) := dbl_take _ j (by rw [HL.out]; exact hlt2)
                  have HC : Hid (cnt (s.data.toList.take (j + 1)) = cnt (s.data.toList.take j) + cnt1 s[j]) := cnt_take _ j (by rw [HL.out]; exact hlt2)
                  generalize hY : pre ws l ++ dbl (s.data.toList.take j) = Y at hB hBl
                  have HY : Hid (pre ws l ++ dbl (s.data.toList.take j) = Y) := hY
                  clear hY
                  by_cases h39 : s[j].toNat = 39
                  · have t39 : ((s[j].toNat : Int) == 39) = true := by simp [h39]
                    have l1 : s[j].toNat < 128 := by omega
                    have HD2 : Hid (pre ws l ++ dbl (s.data.toList.take (j + 1)) = Y ++ [39] ++ [s[j]]) := by rw [HD.out, ← HY.out]; unfold Hid dbl1; rw [if_pos h39]; simp
                    have HX2 : Hid (X + 1 + 1 = preC ws col + cnt (s.data.toList.take (j + 1))) := by rw [HC.out, HX.out]; unfold Hid cnt1; rw [if_pos h39, if_pos (.inl l1)]; omega
                    clear h39
                    go_wp2_with (at_builtin; refine wpList_put hB 39 39 rfl (by omega) rfl (.tmp 121) (.tmp 122) rfl rfl rfl ?_)
                    intro v4 w4 hB4 hk4
                    have hY4 : (Y ++ [39]).length ≤ 300000001 := by simp; omega
                    generalize Y ++ [39] = Y4 at hB4 HD2 hY4
                    go_wp2_with (at_builtin; refine wpList_put hB4 s[j] (s[j].toNat : Int) rfl (by omega) rfl (.tmp 126) (.tmp 128) rfl rfl rfl ?_)
                    intro v5 w5 hB5 hk5
                    go_wp2
                    go_roundg (s.size - (j + 1))
                    case measure => omega
                    case rel => exact ⟨j + 1, _, by omega, rfl, by go_num, rfl, HX2.out, by rw [HD2.out]; exact hB5, (hk.trans hk4).trans hk5, by omega, by omega⟩
                  · have t39 : ((s[j].toNat : Int) == 39) = false := by simp; omega
                    have HD2 : Hid (pre ws l ++ dbl (s.data.toList.take (j + 1)) = Y ++ [s[j]]) := by rw [HD.out, ← HY.out]; unfold Hid dbl1; rw [if_neg h39]; simp
                    by_cases l1 : s[j].toNat < 128
                    · have HX2 : Hid (X + 1 = preC ws col + cnt (s.data.toList.take (j + 1))) := by rw [HC.out, HX.out]; unfold Hid cnt1; rw [if_neg h39, if_pos (.inl l1)]; omega
                      clear h39
                      go_wp2_with (at_builtin; refine wpList_put hB s[j] (s[j].toNat : Int) rfl (by omega) rfl (.tmp 126) (.tmp 128) rfl rfl rfl ?_)
                      intro v5 w5 hB5 hk5
                      go_wp2
                      go_roundg (s.size - (j + 1))
                      case measure => omega
                      case rel => exact ⟨j + 1, _, by omega, rfl, by go_num, rfl, HX2.out, by rw [HD2.out]; exact hB5, hk.trans hk5, by omega, by omega⟩
                    by_cases l2 : 192 ≤ s[j].toNat
                    · have HX2 : Hid (X + 1 = preC ws col + cnt (s.data.toList.take (j + 1))) := by rw [HC.out, HX.out]; unfold Hid cnt1; rw [if_neg h39, if_pos (.inr l2)]; omega
                      clear h39
                      go_wp2_with (at_builtin; refine wpList_put hB s[j] (s[j].toNat : Int) rfl (by omega) rfl (.tmp 126) (.tmp 128) rfl rfl rfl ?_)
                      intro v5 w5 hB5 hk5
                      go_wp2
                      go_roundg (s.size - (j + 1))
                      case measure => omega
                      case rel => exact ⟨j + 1, _, by omega, rfl, by go_num, rfl, HX2.out, by rw [HD2.out]; exact hB5, hk.trans hk5, by omega, by omega⟩
                    · have HX2 : Hid (X = preC ws col + cnt (s.data.toList.take (j + 1))) := by rw [HC.out, HX.out]; unfold Hid cnt1; rw [if_neg h39, if_neg (by omega)]; omega
                      clear h39
                      go_wp2_with (at_builtin; refine wpList_put hB s[j] (s[j].toNat : Int) rfl (by omega) rfl (.tmp 126) (.tmp 128) rfl rfl rfl ?_)
                      intro v5 w5 hB5 hk5
                      go_wp2
                      go_roundg (s.size - (j + 1))
                      case measure => omega
                      case rel => exact ⟨j + 1, _, by omega, rfl, by go_num, rfl, HX2.out, by rw [HD2.out]; exact hB5, hk.trans hk5, by omega, by omega⟩
                · go_wp2_with (at_builtin; refine wpList_put hB 39 39 rfl (by omega) rfl (.tmp 138) (.tmp 139) rfl rfl rfl ?_)
                  intro vW wW hBW hkW
                  replace hkW := hk.trans hkW
                  have HBW : Bf (fun k => k < w1.heap.size) wW vW WB := by
                    have e2 : s.data.toList.take j = s.data.toList := List.take_of_length_le (by rw [HL.out]; omega)
                    rw [e2] at hBW
                    rw [← HWB.out]; unfold want
                    simpa using hBW
                  have tc : ((WC : Int) == X + 1) = true := by
                    have e2 : s.data.toList.take j = s.data.toList := List.take_of_length_le (by rw [HL.out]; omega)
                    have := HX.out
                    rw [e2] at this
                    rw [← HWC.out, this]; unfold wantC; simp
                  clear hBW hB hk HX hBl HEC
                  as_aux_lemma =>
                    go_wp2_with fail
                    have ownA := own_keep hB1.own hkW
                    refine (clone_any wW _ l (Rd.of_own ownA) (by omega)).mono ?_
                    rintro e w3 ⟨v3, rfl, hB3, hk3⟩
                    obtain ⟨x3, n3, p3, rfl⟩ := hB3.form
                    go_wp2_with fail
                    refine (newEmitter_any w3 x3 n3 p3 col ind ws inn).mono ?_
                    rintro e w4 ⟨rfl, hbox4, hk4⟩
                    have hE4 := em_new hB3 (Keep.refl _ w3) hk4 hbox4
                    go_wp2_with fail
                    refine (zzwsq_at hE4 s false pad hmx.out hpn hs2 HV.out (by omega) (by omega) (by omega) (WB, WC) HSF.out).mono ?_
                    rintro e w5 ⟨rfl, hE5⟩
                    have kW5 : Keep (fun k => k < wW.heap.size) wW w5 := by
                      obtain ⟨_, kS, _⟩ := hE5
                      exact ((hk3.trans (hk4.mono fun k hk => Nat.lt_of_lt_of_le hk hk3.size)).trans (kS.mono fun k hk => ⟨Nat.lt_of_lt_of_le hk hk3.size, hB3.far k hk⟩))
                    have ownB := own_keep ownA kW5
                    go_wp2_with fail
                    refine (clone_any w5 _ l (Rd.of_own ownB) (by omega)).mono ?_
                    rintro e w6 ⟨v6, rfl, hB6, hk6⟩
                    obtain ⟨x6, n6, p6, rfl⟩ := hB6.form
                    go_wp2_with fail
                    refine (newEmitter_any w6 x6 n6 p6 col ind ws inn).mono ?_
                    rintro e w7 ⟨rfl, hbox7, hk7⟩
                    have hE7 := em_new hB6 (Keep.refl _ w6) hk7 hbox7
                    go_wp2_with fail
                    refine (zzwsq_at hE7 s true pad hmx.out hpn hs2 HV.out (by omega) (by omega) (by omega) RT HST.out).mono ?_
                    rintro e w8 ⟨rfl, hE8⟩
                    have k58 : Keep (fun k => k < w5.heap.size) w5 w8 := by
                      obtain ⟨_, kS, _⟩ := hE8
                      exact ((hk6.trans (hk7.mono fun k hk => Nat.lt_of_lt_of_le hk hk6.size)).trans (kS.mono fun k hk => ⟨Nat.lt_of_lt_of_le hk hk6.size, hB6.far k hk⟩))
                    go_wp2_with fail
                    refine (fields_any (Em_keep hE5 k58)).mono ?_
                    rintro e w9 ⟨v9, rfl, _, own9, k89, _⟩
                    go_wp2_with fail
                    refine (fields_any (Em_keep hE8 k89)).mono ?_
                    rintro e w10 ⟨v10, rfl, _, own10, k910, _⟩
                    obtain ⟨g10, cap10, rfl, hc1', hc2', hcell10⟩ := own_slice own10 (by omega)
                    go_wp2_with fail
                    refine (unfold_any w10 g10 0 cap10 RT.1 (by omega) hc1' hcell10 l.length pad col (by omega) (by have := hTl.out; omega) hc2' hpn (by omega) (by omega) (WB, RT.2) m HUN.out).mono ?_
                    rintro e w11 ⟨v11, rfl, hB11, hk11⟩
                    have zW := kW5.size
                    have z5 := k58.size
                    have z8 := k89.size
                    have z9 := k910.size
                    have own9' := own_keep (own_keep own9 k910) hk11
                    have kW11 : Keep (fun k => k < wW.heap.size) wW w11 := keep_step (keep_step (keep_step (keep_step kW5 k58 zW) k89 (Nat.le_trans zW z5)) k910 (Nat.le_trans (Nat.le_trans zW z5) z8)) hk11 (Nat.le_trans (Nat.le_trans (Nat.le_trans zW z5) z8) z9)
                    have ownW := own_keep HBW.own kW11
                    go_wp2_with fail
                    refine (bytesEqual_yes w11 v9 vW WB (Rd.of_own own9') (Rd.of_own ownW) (by have := hFl.out; omega)).mono ?_
                    rintro e w12 ⟨rfl, d12⟩
                    go_wp2_with fail
                    refine (bytesEqual_yes w12 v11 vW WB (d12.rd hB11.rd) (d12.rd (Rd.of_own ownW)) (by have := hFl.out; omega)).mono ?_
                    rintro e w13 ⟨rfl, d13⟩
                    go_wp2
                    go_ret
                    refine ⟨rfl, ?_⟩
                    have zz := hk1.size
                    have zw := hkW.size
                    exact (keep_step (keep_step hk1 hkW zz) (kW11.trans ((d12.keep _).trans (d13.keep _))) (Nat.le_trans zz zw)).below
end Go.Proofs.Qxb6630530a.Two
