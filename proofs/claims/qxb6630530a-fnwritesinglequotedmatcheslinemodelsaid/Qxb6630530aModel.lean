/-
  The walk of 'zzLineModel'.
-/
import Derived.Test.Qxb6630530aBufs
import Derived.Test.Qxb6630530aMRel
import Derived.Deep.DeepCutAuto
import Derived.Deep.CutBlock
import Derived.Deep.Light
namespace Go.Proofs.Qxb6630530a
open Go.RowKit
set_option linter.unusedVariables false
set_option linter.unusedSimpArgs false

theorem sub_extract' (s : ByteArray) (i w : Nat) : (s.extract i (i + w)).data.toList = sub s.data.toList i w := by
  simp [sub, List.extract_eq_take_drop]

theorem hid {p : Prop} (h : p) : Hid p := h

/-- Padding with spaces up to the indentation. -/
theorem pad_end (l : List UInt8) (pad : Nat) (c : Int) (t : Nat) (h : c + t = pad) : l ++ List.replicate t 32 = l ++ List.replicate ((pad : Int) - c).toNat (32 : UInt8) := by
  congr 2; omega
theorem pad_one (l : List UInt8) (k : Nat) : l ++ List.replicate k 32 ++ [32] = l ++ List.replicate (k + 1) (32 : UInt8) := by
  rw [List.append_assoc, ← List.replicate_succ']

set_option maxRecDepth 10000 in
set_option maxHeartbeats 20000000 in
theorem model_any (w : World) (v0 : Value) (l0 : List UInt8) (hR : Rd w v0 l0) (c0 : Int) (pad : Nat) (ws fold : Bool) (s : ByteArray) (hpad : pad ≤ 65536) (hs : s.size ≤ 1048576) (hl0 : l0.length ≤ 1048576)
    (hV : V s.data.toList 0) (h1 : -1073741824 ≤ c0) (h2 : c0 ≤ 1073741824) :
    Calls Try.prog 8 #[v0, .int .i64 c0, .int .i64 (pad : Int), .bool ws, .string s, .bool fold] w fun e w' => ∃ v', e = .returned (.tuple #[v', .int .i64 (scalar s.data.toList pad fold ws l0 c0).2]) ∧
      Bf (fun k => k < w.heap.size) w' v' (scalar s.data.toList pad fold ws l0 c0).1 ∧ Keep (fun k => k < w.heap.size) w w' := by
  have HV : Hid (V s.data.toList 0) := hV
  have HL : Hid (s.data.toList.length = s.size) := by simp [Hid]
  clear hV
  obtain ⟨R, HR⟩ : ∃ R, Hid (scalar s.data.toList pad fold ws l0 c0 = R) := ⟨_, rfl⟩
  rw [HR.out]
  obtain ⟨a0, cap0, rfl⟩ := hR.form
  obtain ⟨vb, wb, hmk, hvb, hBb, hkb⟩ := make_cap (l0.length + 2 * s.size + 4) ((l0.length : Int) + 2 * (s.size : Int) + 4) (by omega) (by omega) w
  have HRb := hR.below hkb
  have Hvb : Hid (vb ≠ .slice none 0 0) := hvb
  clear hvb
  go_enter Try.func8, Try.ntmps8
  go_wp2_with (at_builtin; refine wpList_app (m := l0) hBb (Src_rd HRb) (by simp; omega) (fun e => absurd e Hvb.out) rfl (.tmp 33) (.tmp 34) rfl rfl rfl ?_)
  intro v1 w1 hB1 hk1
  replace hk1 := hkb.trans hk1
  clear hBb hkb HRb hR hmk Hvb
  go_upto_if 38 with fail
  go_cut [15, 16] (fun sb sc wx => ∃ (l1 : List UInt8) (c1 : Int), sc = .int .i64 c1 ∧ Bf (fun k => k < w.heap.size) wx sb l1 ∧ Keep (fun k => k < w.heap.size) w wx ∧ l1.length ≤ 1048577 ∧ -1073741824 ≤ c1 ∧ c1 ≤ 1073741825 ∧
      Hid (((lay s.data.toList pad fold s.data.toList.length 0 false false (l1 ++ [39]) (c1 + 1)).1 ++ [39], (lay s.data.toList pad fold s.data.toList.length 0 false false (l1 ++ [39]) (c1 + 1)).2 + 1) = R))
  case first =>
    cases ws
    · go_wp2_with (at_builtin; refine wpList_put hB1 32 32 rfl (by omega) rfl (.tmp 39) (.tmp 40) rfl rfl rfl ?_)
      intro v1' w1' hB1' hk1'
      go_wp2
      go_meet
      exact ⟨_, _, rfl, hB1', hk1.trans hk1', by simp; omega, by omega, by omega, HR⟩
    · go_wp2
      go_meet
      exact ⟨_, _, rfl, hB1, hk1, by omega, by omega, by omega, HR⟩
  case rest =>
    clear hB1 hk1 HR h1 h2
    obtain ⟨l1, c1, rfl, hB1, hk1, q1, q2, q3, HX⟩ := hcut
    go_wp2_with (at_builtin; refine wpList_put hB1 39 39 rfl (by omega) rfl (.tmp 44) (.tmp 45) rfl rfl rfl ?_)
    intro v2 w2 hB2 hk2
    go_wp2_with fail
    have hk := hk1.trans hk2
    clear hk1 hk2 hB1
    obtain ⟨R1, HR1⟩ : ∃ R1, Hid (lay s.data.toList pad fold s.data.toList.length 0 false false (l1 ++ [39]) (c1 + 1) = R1) := ⟨_, hid rfl⟩
    have HX2 : Hid ((R1.1 ++ [39], R1.2 + 1) = R) := by rw [← HR1.out]; exact HX
    have HO : Hid (Outer s.data.toList pad fold R1 true 0 (l1 ++ [39]) (c1 + 1)) :=
      ⟨Nat.zero_le _, HV.out, ⟨_, by omega, HR1.out⟩, (fun _ => rfl), by simp; omega, by omega, by omega⟩
    clear HX HR1
    go_loopg [15, 16, 17, 18, 19] (s.size + 1) (fun g sb sc si sf sd wr => ∃ (l : List UInt8) (c : Int) (i : Nat) (first done : Bool), sc = .int .i64 c ∧ si = .int .i64 i ∧ sf = .bool first ∧ sd = .bool done ∧ Bf (fun k => k < w.heap.size) wr sb l ∧ Keep (fun k => k < w.heap.size) w wr ∧
        ((done = true ∧ R1 = (l, c) ∧ g = 0 ∧ l.length ≤ 100000000000 ∧ -2000000000 ≤ c ∧ c ≤ 5000000000) ∨ (done = false ∧ g = s.size - i + 1 ∧ Outer s.data.toList pad fold R1 first i l c)))
    case atStart => exact ⟨l1 ++ [39], c1 + 1, 0, true, false, rfl, rfl, rfl, rfl, hB2, hk, .inr ⟨rfl, rfl, HO.out⟩⟩
    case round =>
      clear HO hB2 hk
      obtain ⟨l, c, i, first, done, rfl, rfl, rfl, rfl, hB, hk, hcase⟩ := hrel
      rcases hcase with ⟨rfl, hRR, rfl, b1, b2, b3⟩ | ⟨rfl, rfl, hO⟩
      · have HRR : Hid (R = (l ++ [39], c + 1)) := by rw [← HX2.out, hRR]; rfl
        clear hRR
        go_wp2_with (at_builtin; refine wpList_put hB 39 39 rfl (by omega) rfl (.tmp 196) (.tmp 197) rfl rfl rfl ?_)
        intro v3 w3 hB3 hk3
        go_wp2
        go_ret2
        rw [HRR.out]
        exact ⟨_, rfl, hB3, hk.trans hk3⟩
      · go_upto_block 2 with fail
        have b1 := hO.hl
        have b2 := hO.c1
        have b3 := hO.c2
        have b0 := hO.hi
        rw [HL.out] at b0
        have HO : Hid (Outer s.data.toList pad fold R1 first i l c) := hO
        clear hO
        go_cut [20] (fun sj wx => wr = wx ∧ ∃ j : Nat, sj = .int .i64 j ∧ Jok s.data.toList i j)
        case first =>
          as_aux_lemma =>
            go_wp2_with fail
            go_loopg [20] (s.size - i) (fun g sj wx => wr = wx ∧ ∃ j : Nat, i ≤ j ∧ j ≤ s.size ∧ g = s.size - j ∧ sj = .int .i64 j ∧ ∀ t, i ≤ t → t < j → brk s.data.toList t = 0)
            case atStart => exact ⟨rfl, i, Nat.le_refl _, b0, rfl, rfl, fun t a b => by omega⟩
            case round =>
              obtain ⟨rfl, j, hij, hjs, rfl, rfl, hall⟩ := hrel
              have Hall : Hid (∀ t, i ≤ t → t < j → brk s.data.toList t = 0) := hall
              clear hall
              by_cases hlt : j < s.size
              · by_cases hb : brk s.data.toList j = 0
                · have Hb : Hid (brk s.data.toList j = 0) := hb
                  clear hb
                  go_wp2_with fail
                  refine (breakLen_any s j _ hlt hs).mono ?_
                  rintro e w' ⟨rfl, rfl⟩
                  rw [Hb.out]
                  go_wp2
                  go_roundg (s.size - (j + 1))
                  case measure => omega
                  case rel =>
                    refine ⟨rfl, j + 1, by omega, by omega, rfl, by go_num, fun t a b => ?_⟩
                    by_cases e : t = j
                    · subst e; exact Hb.out
                    · exact Hall.out t a (by omega)
                · obtain ⟨q, HQ⟩ : ∃ q, Hid (brk s.data.toList j = q) := ⟨_, rfl⟩
                  have hq0 : q ≠ 0 := by rw [← HQ.out]; exact hb
                  have t0 : ((q : Int) == 0) = false := by simp; omega
                  have Hb : Hid (brk s.data.toList j ≠ 0) := hb
                  clear hb
                  go_wp2_with fail
                  refine (breakLen_any s j _ hlt hs).mono ?_
                  rintro e w' ⟨rfl, rfl⟩
                  rw [HQ.out]
                  go_wp2
                  go_meet
                  exact ⟨rfl, j, rfl, ⟨hij, by rw [HL.out]; exact hjs, Hall.out, .inr Hb.out⟩⟩
              · obtain rfl : j = s.size := by omega
                go_wp2
                go_meet
                exact ⟨rfl, s.size, rfl, ⟨hij, by rw [HL.out]; exact Nat.le_refl _, Hall.out, .inl HL.out.symm⟩⟩
        case rest =>
          obtain ⟨rfl, j, rfl, hJ⟩ := hcut
          go_upto_if 65 with fail
          have HJ : Hid (Jok s.data.toList i j) := hJ
          have j1 := hJ.le
          have j2 := hJ.len
          rw [HL.out] at j2
          clear hJ
          go_cut [15, 16, 21] (fun sb sc sk wx => ∃ (l : List UInt8) (c : Int) (k : Nat), sc = .int .i64 c ∧ sk = .int .i64 k ∧ i ≤ k ∧ Bf (fun k => k < w.heap.size) wx sb l ∧ Keep (fun k => k < w.heap.size) w wx ∧ Main s.data.toList pad fold R1 j k l c)
          case first =>
            cases first
            · go_upto_block 4 with fail
              go_cut [15, 16, 21] (fun sb sc sk wx => ∃ (l : List UInt8) (c : Int) (k : Nat), sc = .int .i64 c ∧ sk = .int .i64 k ∧ i ≤ k ∧ Bf (fun k => k < w.heap.size) wx sb l ∧ Keep (fun k => k < w.heap.size) w wx ∧ Lead s.data.toList pad fold R1 j k l c ∧ (k < j → bt s.data.toList k ≠ 32))
              case first =>
                as_aux_lemma =>
                  go_wp2_with fail
                  go_loopg [15, 16, 21] (j - i) (fun g sb sc sk wx => ∃ (l : List UInt8) (c : Int) (k : Nat), g = j - k ∧ sc = .int .i64 c ∧ sk = .int .i64 k ∧ i ≤ k ∧ Bf (fun k => k < w.heap.size) wx sb l ∧ Keep (fun k => k < w.heap.size) w wx ∧ Lead s.data.toList pad fold R1 j k l c)
                  case atStart => exact ⟨l, 0, i, rfl, rfl, rfl, Nat.le_refl _, hB, hk, HO.out.lead HJ.out⟩
                  case round =>
                    clear hB hk b1 b2 b3
                    obtain ⟨l, c, k, rfl, rfl, rfl, hik, hB, hk, hLd⟩ := hrel
                    have HLd : Hid (Lead s.data.toList pad fold R1 j k l c) := hLd
                    have b1 := hLd.hl
                    have b2 := hLd.c1
                    have b3 := hLd.c2
                    have b4 := hLd.hk
                    clear hLd
                    by_cases hlt : k < j
                    · have hks : k < s.size := by omega
                      by_cases h32 : s[k].toNat = 32
                      · have t32 : ((s[k].toNat : Int) == 32) = true := by simp [h32]
                        have H32 : Hid (bt s.data.toList k = 32) := by rw [bt_byte s k hks]; exact h32
                        clear h32
                        go_wp2_with (at_builtin; refine wpList_put hB 32 32 rfl (by omega) rfl (.tmp 75) (.tmp 76) rfl rfl rfl ?_)
                        intro v5 w5 hB5 hk5
                        go_wp2
                        go_roundg (j - (k + 1))
                        case measure => omega
                        case rel => exact ⟨_, _, k + 1, rfl, rfl, by go_num, by omega, hB5, hk.trans hk5, HLd.out.space hlt (by rw [HL.out]; exact j2) H32.out⟩
                      · have t32 : ((s[k].toNat : Int) == 32) = false := by simp; omega
                        have H32 : Hid (bt s.data.toList k ≠ 32) := by rw [bt_byte s k hks]; exact h32
                        clear h32
                        go_wp2
                        go_meet
                        exact ⟨l, c, k, rfl, rfl, hik, hB, hk, HLd.out, fun _ => H32.out⟩
                    · go_wp2
                      go_meet
                      exact ⟨l, c, k, rfl, rfl, hik, hB, hk, HLd.out, fun h => absurd h hlt⟩
              case rest =>
                as_aux_lemma =>
                  clear hB hk b1 b2 b3
                  obtain ⟨l, c, k, rfl, rfl, hik, hB, hk, hLd, hnsp⟩ := hcut
                  have b1 := hLd.hl
                  have b2 := hLd.c1
                  have b3 := hLd.c2
                  have b4 := hLd.hk
                  by_cases hlt : k < j
                  · have HMn : Hid (Main s.data.toList pad fold R1 j k (indL pad l c) pad) := hLd.ind hpad hlt (by rw [HL.out]; exact j2) (hnsp hlt) (HJ.out.all k hik hlt)
                    clear hnsp hLd
                    go_upto_if 87 with fail
                    go_cut [15, 16] (fun sb sc wx => ∃ (l' : List UInt8) (c' : Int), sc = .int .i64 c' ∧ Bf (fun k => k < w.heap.size) wx sb l' ∧ Keep (fun k => k < w.heap.size) w wx ∧ 0 ≤ c' ∧ c' ≤ pad ∧ l'.length ≤ 2097155 + k * 70000 ∧ Hid (l' ++ List.replicate ((pad : Int) - c').toNat 32 = indL pad l c))
                    case first =>
                      by_cases hcp : (pad : Int) < c
                      · have HE : Hid (l ++ [10] ++ List.replicate ((pad : Int) - 0).toNat 32 = indL pad l c) := by
                          unfold Hid indL; rw [if_neg (by omega)]; simp
                        go_wp2_with (at_builtin; refine wpList_put hB 10 10 rfl (by omega) rfl (.tmp 88) (.tmp 89) rfl rfl rfl ?_)
                        intro v6 w6 hB6 hk6
                        go_wp2
                        go_meet
                        exact ⟨_, 0, rfl, hB6, hk.trans hk6, by omega, by omega, by simp; omega, HE⟩
                      · have HE : Hid (l ++ List.replicate ((pad : Int) - c).toNat 32 = indL pad l c) := by
                          unfold Hid indL; rw [if_pos (by omega)]
                        go_wp2
                        go_meet
                        exact ⟨l, c, rfl, hB, hk, b2, by omega, by omega, HE⟩
                    case rest =>
                      clear hB hk
                      obtain ⟨l', c', rfl, hB, hk, e1, e2, e3, HE⟩ := hcut
                      go_wp2_with fail
                      go_loopg [15, 16] ((pad : Int) - c').toNat (fun g sb sc wx => ∃ t : Nat, g = ((pad : Int) - c').toNat - t ∧ sc = .int .i64 (c' + t) ∧ c' + t ≤ pad ∧ Bf (fun k => k < w.heap.size) wx sb (l' ++ List.replicate t 32) ∧ Keep (fun k => k < w.heap.size) w wx)
                      case atStart => exact ⟨0, rfl, by simp, by omega, by simpa using hB, hk⟩
                      case round =>
                        clear hB hk
                        obtain ⟨t, rfl, rfl, ht, hB, hk⟩ := hrel
                        have hlen : (l' ++ List.replicate t (32 : UInt8)).length ≤ 35184372088832 := by simp; omega
                        by_cases hlt2 : c' + t < pad
                        · go_wp2_with (at_builtin; refine wpList_put hB 32 32 rfl hlen rfl (.tmp 94) (.tmp 95) rfl rfl rfl ?_)
                          intro v7 w7 hB7 hk7
                          have hB8 : Bf (fun k => k < w.heap.size) w7 v7 (l' ++ List.replicate (t + 1) 32) := by rw [← pad_one]; simpa using hB7
                          clear hB7
                          go_wp2
                          go_roundg (((pad : Int) - c').toNat - (t + 1))
                          case measure => omega
                          case rel => exact ⟨t + 1, rfl, by rw [show c' + ((t + 1 : Nat) : Int) = c' + t + 1 by omega], by omega, hB8, hk.trans hk7⟩
                        · have hcc : Hid (c' + t = pad) := by unfold Hid; omega
                          have hB8 : Bf (fun k => k < w.heap.size) wr (u15) (indL pad l c) := by rw [← HE.out, ← pad_end l' pad c' t hcc.out]; exact hB
                          go_wp2
                          go_meet
                          exact ⟨indL pad l c, pad, k, by rw [hcc.out], rfl, hik, hB8, hk, HMn.out⟩
                  · have HMn : Hid (Main s.data.toList pad fold R1 j k l c) := hLd.stop hlt
                    clear hnsp hLd
                    go_wp2
                    go_meet
                    exact ⟨l, c, k, rfl, rfl, hik, hB, hk, HMn.out⟩
            · go_wp2
              go_meet
              exact ⟨l, c, i, rfl, rfl, Nat.le_refl _, hB, hk, HO.out.main HJ.out⟩
          case rest =>
            clear hB hk b1 b2 b3 HO
            obtain ⟨l, c, k, rfl, rfl, hik, hB, hk, hMn⟩ := hcut
            have HMn : Hid (Main s.data.toList pad fold R1 j k l c) := hMn
            clear hMn
            go_upto_block 8 with fail
            go_cut [15, 16] (fun sb sc wx => ∃ (l : List UInt8) (c : Int) (k : Nat), sc = .int .i64 c ∧ Bf (fun k => k < w.heap.size) wx sb l ∧ Keep (fun k => k < w.heap.size) w wx ∧ Main s.data.toList pad fold R1 j k l c ∧ ¬ k < j)
            case first =>
              go_wp2_with fail
              go_loopg [15, 16, 21] (j - k) (fun g sb sc sk wx => ∃ (l : List UInt8) (c : Int) (k : Nat), g = j - k ∧ sc = .int .i64 c ∧ sk = .int .i64 k ∧ i ≤ k ∧ Bf (fun k => k < w.heap.size) wx sb l ∧ Keep (fun k => k < w.heap.size) w wx ∧ Main s.data.toList pad fold R1 j k l c)
              case atStart => exact ⟨l, c, k, rfl, rfl, rfl, hik, hB, hk, HMn.out⟩
              case round =>
                clear hB hk HMn hik
                obtain ⟨l, c, k, rfl, rfl, rfl, hik, hB, hk, hMn⟩ := hrel
                have HMn : Hid (Main s.data.toList pad fold R1 j k l c) := hMn
                have b1 := hMn.hl
                have b2 := hMn.c1
                have b3 := hMn.c2
                have b4 := hMn.hk
                clear hMn
                by_cases hlt : k < j
                · have hks : k < s.size := by omega
                  have HJ2 : Hid (j ≤ s.data.toList.length) := by unfold Hid; rw [HL.out]; exact j2
                  have HB : Hid (bt s.data.toList k = s[k].toNat) := bt_byte s k hks
                  by_cases h32 : s[k].toNat = 32
                  · have t32 : ((s[k].toNat : Int) == 32) = true := by simp [h32]
                    have H32 : Hid (bt s.data.toList k = 32) := by rw [HB.out]; exact h32
                    clear h32
                    by_cases gF : fold = true ∧ 80 < c ∧ 0 < k ∧ bt s.data.toList (k - 1) ≠ 32 ∧ k + 1 < s.data.toList.length ∧ bt s.data.toList (k + 1) ≠ 32
                    · as_aux_lemma =>
                        obtain ⟨rfl, g2, g3, g4, g5, g6⟩ := gF
                        have HM2 : Hid (Main s.data.toList pad true R1 j (k + 1) (l ++ 10 :: List.replicate pad 32) pad) := HMn.out.onFold hpad hlt HJ2.out H32.out rfl g2 g3 g4 g5 g6
                        rw [HL.out] at g5
                        obtain ⟨p, rfl⟩ : ∃ p, k = p + 1 := ⟨k - 1, by omega⟩
                        have hps : p < s.size := by omega
                        have t1 : ((s[p + 1 + 1].toNat : Int) != 32) = true := by
                          rw [bt_byte s (p + 1 + 1) g5] at g6
                          rw [bne_iff_ne]; omega
                        have t2 : ((s[p].toNat : Int) != 32) = true := by
                          rw [show p + 1 - 1 = p by omega, bt_byte s p hps] at g4
                          rw [bne_iff_ne]; omega
                        clear g4 g6
                        go_wp2_with (at_builtin; refine wpList_put hB 10 10 rfl (by omega) rfl (.tmp 135) (.tmp 136) rfl rfl rfl ?_)
                        intro v6 w6 hB6 hk6
                        go_wp2_with fail
                        go_loopg [15, 16] pad (fun g sb sc wx => ∃ t : Nat, g = pad - t ∧ t ≤ pad ∧ sc = .int .i64 t ∧ Bf (fun k => k < w.heap.size) wx sb (l ++ 10 :: List.replicate t 32) ∧ Keep (fun k => k < w.heap.size) w wx)
                        case atStart => exact ⟨0, rfl, Nat.zero_le _, rfl, by simpa using hB6, hk.trans hk6⟩
                        case round =>
                          clear hB hk hB6 hk6
                          obtain ⟨t, rfl, ht, rfl, hB, hk⟩ := hrel
                          have hlen : (l ++ 10 :: List.replicate t (32 : UInt8)).length ≤ 35184372088832 := by simp; omega
                          by_cases hlt2 : t < pad
                          · go_wp2_with (at_builtin; refine wpList_put hB 32 32 rfl hlen rfl (.tmp 141) (.tmp 142) rfl rfl rfl ?_)
                            intro v7 w7 hB7 hk7
                            have hB8 : Bf (fun k => k < w.heap.size) w7 v7 (l ++ 10 :: List.replicate (t + 1) 32) := by
                              rw [show l ++ 10 :: List.replicate (t + 1) (32 : UInt8) = l ++ 10 :: List.replicate t 32 ++ [32] by simp [List.replicate_succ']]
                              simpa using hB7
                            clear hB7
                            go_wp2
                            go_roundg (pad - (t + 1))
                            case measure => omega
                            case rel => exact ⟨t + 1, rfl, by omega, by go_num, hB8, hk.trans hk7⟩
                          · obtain rfl : t = pad := by omega
                            go_wp2
                            go_roundg (j - (p + 1 + 1))
                            case measure => omega
                            case rel => exact ⟨_, _, p + 1 + 1, rfl, rfl, by go_num, by omega, hB, hk, HM2.out⟩
                    · as_aux_lemma =>
                        have HM2 : Hid (Main s.data.toList pad fold R1 j (k + 1) (l ++ [32]) (c + 1)) := HMn.out.onSpace hlt HJ2.out H32.out gF
                        rw [HL.out] at gF
                        have gG : fold = false ∨ (fold = true ∧ ¬ 80 < c) ∨ (fold = true ∧ 80 < c ∧ ¬ 0 < k) ∨ (fold = true ∧ 80 < c ∧ ∃ p, k = p + 1 ∧ bt s.data.toList p = 32) ∨ (fold = true ∧ 80 < c ∧ ∃ p, k = p + 1 ∧ bt s.data.toList p ≠ 32 ∧ ¬ k + 1 < s.size) ∨
                            (fold = true ∧ 80 < c ∧ ∃ p, k = p + 1 ∧ bt s.data.toList p ≠ 32 ∧ k + 1 < s.size ∧ bt s.data.toList (k + 1) = 32) := by
                          cases fold
                          · exact .inl rfl
                          right
                          by_cases a2 : 80 < c
                          case neg => exact .inl ⟨rfl, a2⟩
                          right
                          by_cases a3 : 0 < k
                          case neg => exact .inl ⟨rfl, a2, a3⟩
                          right
                          by_cases a4 : bt s.data.toList (k - 1) = 32
                          case pos => exact .inl ⟨rfl, a2, k - 1, by omega, a4⟩
                          right
                          by_cases a5 : k + 1 < s.size
                          case neg => exact .inl ⟨rfl, a2, k - 1, by omega, a4, a5⟩
                          right
                          refine ⟨rfl, a2, k - 1, by omega, a4, a5, ?_⟩
                          by_cases a6 : bt s.data.toList (k + 1) = 32
                          · exact a6
                          · exact absurd ⟨rfl, a2, a3, a4, a5, a6⟩ gF
                        clear gF
                        rcases gG with rfl | ⟨rfl, a2⟩ | ⟨rfl, a2, a3⟩ | ⟨rfl, a2, p, rfl, a4⟩ | ⟨rfl, a2, p, rfl, a4, a5⟩ | ⟨rfl, a2, p, rfl, a4, a5, a6⟩
                        case' inr.inr.inr.inl =>
                          have hps : p < s.size := by omega
                          have t2 : ((s[p].toNat : Int) != 32) = false := by rw [bt_byte s p hps] at a4; simp [a4]
                          clear a4
                        case' inr.inr.inr.inr.inl =>
                          have hps : p < s.size := by omega
                          have t2 : ((s[p].toNat : Int) != 32) = true := by rw [bt_byte s p hps] at a4; rw [bne_iff_ne]; omega
                          clear a4
                        case' inr.inr.inr.inr.inr =>
                          have hps : p < s.size := by omega
                          have t2 : ((s[p].toNat : Int) != 32) = true := by rw [bt_byte s p hps] at a4; rw [bne_iff_ne]; omega
                          have t1 : ((s[p + 1 + 1].toNat : Int) != 32) = false := by rw [bt_byte s (p + 1 + 1) a5] at a6; simp [a6]
                          clear a4 a6
                        all_goals
                          go_wp2_with (at_builtin; refine wpList_put hB 32 32 rfl (by omega) rfl (.tmp 146) (.tmp 147) rfl rfl rfl ?_)
                          intro v6 w6 hB6 hk6
                          go_wp2
                          first
                            | (go_roundg (j - (k + 1))
                               case measure => omega
                               case rel => exact ⟨_, _, k + 1, rfl, rfl, by go_num, by omega, hB6, hk.trans hk6, HM2.out⟩)
                            | (go_roundg (j - (p + 1 + 1))
                               case measure => omega
                               case rel => exact ⟨_, _, p + 1 + 1, rfl, rfl, by go_num, by omega, hB6, hk.trans hk6, HM2.out⟩)
                  · have t32 : ((s[k].toNat : Int) == 32) = false := by simp; omega
                    have H32 : Hid (bt s.data.toList k ≠ 32) := by rw [HB.out]; exact h32
                    clear h32
                    obtain ⟨q, HQ⟩ : ∃ q, Hid (cw (bt s.data.toList k) = q) := ⟨_, hid rfl⟩
                    obtain ⟨hqj, hM2⟩ := HMn.out.onChar HJ.out hik hlt H32.out q HQ.out
                    have HQ2 : Hid (cw s[k].toNat = q) := by rw [← HB.out]; exact HQ
                    have hq1 : 1 ≤ q := by rw [← HQ.out]; exact cw_pos _
                    have hq4 : q ≤ 4 := by rw [← HQ.out]; exact cw_le _
                    have Hsl : Hid ((sub s.data.toList k q).length = q) := sub_length (by rw [HL.out]; omega)
                    have r1 : IntKind.i64.wrap ((k : Int) + (q : Int)) = (k : Int) + (q : Int) := by rw [IntKind.wrap_i64]; omega
                    have r2 : ((k : Int) + (q : Int)).toNat = k + q := by omega
                    have r3 : (0 : Int) ≤ (k : Int) + (q : Int) := by omega
                    have r4 : (k : Int) + (q : Int) ≤ (s.size : Int) := by omega
                    have r5 : (k : Int) ≤ (k : Int) + (q : Int) := by omega
                    by_cases h39 : s[k].toNat = 39
                    · as_aux_lemma =>
                        have t39 : ((s[k].toNat : Int) == 39) = true := by simp [h39]
                        have H39 : Hid (bt s.data.toList k = 39) := by rw [HB.out]; exact h39
                        clear h39
                        rw [if_pos H39.out, if_pos H39.out] at hM2
                        have HM2 : Hid (Main s.data.toList pad fold R1 j (k + q) (l ++ [39] ++ sub s.data.toList k q) (c + 1 + 1)) := hM2
                        clear hM2
                        go_wp2_with fail
                        refine (runeLen_any s[k].toNat _ (UInt8.toNat_lt _)).mono ?_
                        rintro e w' ⟨rfl, rfl⟩
                        rw [HQ2.out]
                        go_wp2_with (at_builtin; refine wpList_put hB 39 39 rfl (by omega) rfl (.tmp 161) (.tmp 162) rfl rfl rfl ?_)
                        intro v6 w6 hB6 hk6
                        have hlen : (l ++ [39]).length ≤ 300000000000 := by simp; omega
                        generalize l ++ [39] = l2 at hB6 HM2 hlen
                        go_wp2_with (at_builtin; refine wpList_app (m := sub s.data.toList k q) hB6 (Src_str _ _ _ (sub_extract' s k q)) (by rw [Hsl.out]; omega) (fun _ e => by have := Hsl.out; rw [e] at this; simp at this; omega) rfl (.tmp 166) (.tmp 172) rfl rfl rfl ?_)
                        intro v7 w7 hB7 hk7
                        go_wp2
                        go_roundg (j - (k + q))
                        case measure => omega
                        case rel => exact ⟨_, _, k + q, rfl, rfl, by go_num, by omega, hB7, (hk.trans hk6).trans hk7, HM2.out⟩
                    · as_aux_lemma =>
                        have t39 : ((s[k].toNat : Int) == 39) = false := by simp; omega
                        have H39 : Hid (¬ bt s.data.toList k = 39) := by rw [HB.out]; exact h39
                        clear h39
                        rw [if_neg H39.out, if_neg H39.out] at hM2
                        have HM2 : Hid (Main s.data.toList pad fold R1 j (k + q) (l ++ sub s.data.toList k q) (c + 1)) := hM2
                        clear hM2
                        go_wp2_with fail
                        refine (runeLen_any s[k].toNat _ (UInt8.toNat_lt _)).mono ?_
                        rintro e w' ⟨rfl, rfl⟩
                        rw [HQ2.out]
                        go_wp2_with (at_builtin; refine wpList_app (m := sub s.data.toList k q) hB (Src_str _ _ _ (sub_extract' s k q)) (by rw [Hsl.out]; omega) (fun _ e => by have := Hsl.out; rw [e] at this; simp at this; omega) rfl (.tmp 166) (.tmp 172) rfl rfl rfl ?_)
                        intro v7 w7 hB7 hk7
                        go_wp2
                        go_roundg (j - (k + q))
                        case measure => omega
                        case rel => exact ⟨_, _, k + q, rfl, rfl, by go_num, by omega, hB7, hk.trans hk7, HM2.out⟩
                · go_wp2
                  go_meet
                  exact ⟨l, c, k, rfl, hB, hk, HMn.out, hlt⟩
            case rest =>
              clear hB hk HMn hik
              obtain ⟨l, c, k, rfl, hB, hk, hMn, hnlt⟩ := hcut
              have b1 := hMn.hl
              have b2 := hMn.c1
              have b3 := hMn.c2
              have b4 := hMn.hk
              by_cases hjn : j < s.size
              · as_aux_lemma =>
                  obtain ⟨q, HQ⟩ : ∃ q, Hid (brk s.data.toList j = q) := ⟨_, hid rfl⟩
                  obtain ⟨hq0, hqle, hO⟩ := hMn.onBrk HJ.out hnlt (by rw [HL.out]; exact hjn) q HQ.out
                  have HO : Hid (Outer s.data.toList pad fold R1 false (j + q) (l ++ sub s.data.toList j q) c) := hO
                  have Hsl : Hid ((sub s.data.toList j q).length = q) := sub_length hqle
                  rw [HL.out] at hqle
                  have hq3 : q ≤ 3 := by rw [← HQ.out]; exact brk_le _ _
                  have r1 : IntKind.i64.wrap ((j : Int) + (q : Int)) = (j : Int) + (q : Int) := by rw [IntKind.wrap_i64]; omega
                  have r2 : ((j : Int) + (q : Int)).toNat = j + q := by omega
                  have r3 : (0 : Int) ≤ (j : Int) + (q : Int) := by omega
                  have r4 : (j : Int) + (q : Int) ≤ (s.size : Int) := by omega
                  have r5 : (j : Int) ≤ (j : Int) + (q : Int) := by omega
                  clear hO hMn
                  go_wp2_with fail
                  refine (breakLen_any s j _ hjn hs).mono ?_
                  rintro e w' ⟨rfl, rfl⟩
                  rw [HQ.out]
                  go_wp2_with (at_builtin; refine wpList_app (m := sub s.data.toList j q) hB (Src_str _ _ _ (sub_extract' s j q)) (by rw [Hsl.out]; omega) (fun _ e => by have := Hsl.out; rw [e] at this; simp at this; omega) rfl (.tmp 185) (.tmp 191) rfl rfl rfl ?_)
                  intro v8 w8 hB8 hk8
                  go_wp2
                  go_roundg (s.size - (j + q) + 1)
                  case measure => omega
                  case rel => exact ⟨_, _, j + q, false, false, rfl, by go_num, rfl, rfl, hB8, hk.trans hk8, .inr ⟨rfl, rfl, HO.out⟩⟩
              · have hRR := hMn.done hnlt (by rw [HL.out]; omega)
                have HRR : Hid (R1 = (l, c)) := hRR
                clear hRR hMn
                go_wp2
                go_roundg 0
                case measure => omega
                case rel => exact ⟨l, c, i, first, true, rfl, rfl, rfl, rfl, hB, hk, .inl ⟨rfl, HRR.out, rfl, by omega, by omega, by omega⟩⟩
end Go.Proofs.Qxb6630530a
