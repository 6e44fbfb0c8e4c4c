/-
  The small functions on the laws' roads.
-/
import Derived.Test.Qxb6630671aDoorFmt
namespace Go.Proofs.Qxb6630671aDoor
open Go.RowKit
set_option linter.unusedVariables false
set_option linter.unusedSimpArgs false

def BP (w : World) (e : Ending) (w' : World) : Prop := ∃ r : Bool, e = .returned (.bool r) ∧ w' = w
theorem bp (w : World) (r : Bool) : BP w (.returned (.bool r)) w := ⟨r, rfl, rfl⟩

set_option maxHeartbeats 400000 in
theorem bytes1_any (a : Option Addr) (n c : Nat) (w : World) (hn : n ≤ 9223372036854775807) : Calls Tryd.prog 5 #[.slice a n c] w fun e w' => BP w e w' := by
  by_cases hA : 1048576 < n
  · go_enter Tryd.func5, Tryd.ntmps5
    go_wp2
    go_ret
    exact bp _ _
  go_enter Tryd.func5, Tryd.ntmps5
  go_wp2
  go_loopg [3, 4] n (fun g sn si wx => w = wx ∧ ∃ (k : Nat) (z : Int), k ≤ n ∧ g = n - k ∧ si = .int .i64 k ∧ sn = .int .i64 z ∧ 0 ≤ z ∧ z ≤ 1048576)
  case atStart => exact ⟨rfl, 0, _, Nat.zero_le _, rfl, rfl, rfl, by omega, by omega⟩
  case round =>
    obtain ⟨rfl, k, z, hk, rfl, rfl, rfl, z1, z2⟩ := hrel
    by_cases hlt : k < n
    · by_cases hs : 1048576 < z + 32
      · go_wp2
        go_ret
        exact bp _ _
      · go_wp2
        go_roundg (n - (k + 1))
        case measure => omega
        case rel => exact ⟨rfl, k + 1, _, by omega, rfl, by go_num, rfl, by omega, by omega⟩
    · go_wp2
      go_ret
      exact bp _ _

set_option maxHeartbeats 400000 in
theorem bytes2_any (a b : Option Addr) (n c m d : Nat) (w : World) (hn : n ≤ 9223372036854775807) (hm : m ≤ 9223372036854775807) : Calls Tryd.prog 10 #[.slice a n c, .slice b m d] w fun e w' => BP w e w' := by
  by_cases hA : 1048576 < n
  · go_enter Tryd.func10, Tryd.ntmps10
    go_wp2
    go_ret
    exact bp _ _
  go_enter Tryd.func10, Tryd.ntmps10
  go_wp2
  go_loopg [5, 6] n (fun g sn si wx => w = wx ∧ ∃ (k : Nat) (z : Int), k ≤ n ∧ g = n - k ∧ si = .int .i64 k ∧ sn = .int .i64 z ∧ 0 ≤ z ∧ z ≤ 1048576)
  case atStart => exact ⟨rfl, 0, _, Nat.zero_le _, rfl, rfl, rfl, by omega, by omega⟩
  case round =>
    obtain ⟨rfl, k, z, hk, rfl, rfl, rfl, z1, z2⟩ := hrel
    by_cases hlt : k < n
    · by_cases hs : 1048576 < z + 32
      · go_wp2
        go_ret
        exact bp _ _
      · go_wp2
        go_roundg (n - (k + 1))
        case measure => omega
        case rel => exact ⟨rfl, k + 1, _, by omega, rfl, by go_num, rfl, by omega, by omega⟩
    · by_cases hB : 1048576 < m
      · go_wp2
        go_ret
        exact bp _ _
      by_cases hC : 1048576 < z + m
      · go_wp2
        go_ret
        exact bp _ _
      go_wp2
      go_loopg [5, 7] m (fun g sn si wx => w = wx ∧ ∃ (k : Nat) (z : Int), k ≤ m ∧ g = m - k ∧ si = .int .i64 k ∧ sn = .int .i64 z ∧ 0 ≤ z ∧ z ≤ 1048576)
      case atStart => exact ⟨rfl, 0, _, Nat.zero_le _, rfl, rfl, rfl, by omega, by omega⟩
      case round =>
        obtain ⟨rfl, k, z, hk, rfl, rfl, rfl, z1, z2⟩ := hrel
        by_cases hlt : k < m
        · by_cases hs : 1048576 < z + 32
          · go_wp2
            go_ret
            exact bp _ _
          · go_wp2
            go_roundg (m - (k + 1))
            case measure => omega
            case rel => exact ⟨rfl, k + 1, _, by omega, rfl, by go_num, rfl, by omega, by omega⟩
        · go_wp2
          go_ret
          exact bp _ _

theorem mag_any (l : Int) (h0 : -9223372036854775808 ≤ l) (h1 : l ≤ 9223372036854775807) (w : World) : Calls Tryd.prog 8 #[.int .i64 l] w fun e w' => e = .returned (.int .u64 (l.natAbs : Int)) ∧ w' = w := by
  by_cases hl : l < 0
  · go_enter Tryd.func8, Tryd.ntmps8
    go_wp2
    go_ret
    refine ⟨?_, rfl⟩
    have e : IntKind.u64.wrap (-IntKind.u64.wrap l) = (l.natAbs : Int) := by
      simp only [IntKind.wrap_u64]
      omega
    show Ending.returned (.int .u64 (IntKind.u64.wrap (-IntKind.u64.wrap l))) = _
    rw [e]
  · go_enter Tryd.func8, Tryd.ntmps8
    go_wp2
    go_ret
    refine ⟨?_, rfl⟩
    have e : l = (l.natAbs : Int) := by omega
    show Ending.returned (.int .u64 l) = _
    rw [← e]

theorem hex_lo (x : Int) (h0 : 48 ≤ x) (h1 : x ≤ 57) (w : World) : Calls Tryd.prog 9 #[.int .u8 x] w fun e w' => e = .returned (.int .i64 (x - 48)) ∧ w' = w := by
  go_enter Tryd.func9, Tryd.ntmps9
  go_wp2
  go_ret
  exact ⟨rfl, rfl⟩
theorem hex_hi (x : Int) (h0 : 97 ≤ x) (h1 : x ≤ 102) (w : World) : Calls Tryd.prog 9 #[.int .u8 x] w fun e w' => e = .returned (.int .i64 (x - 87)) ∧ w' = w := by
  go_enter Tryd.func9, Tryd.ntmps9
  go_wp2
  go_ret
  refine ⟨?_, rfl⟩
  have e : x - 97 + 10 = x - 87 := by omega
  first
    | rfl
    | (show Ending.returned (.int .i64 (x - 97 + 10)) = _; rw [e])

theorem digit_lo : ∀ d : Fin 16, d.val < 10 → (Lib.Hx.digit d.val).toNat = 48 + d.val := by decide +kernel
theorem digit_hi : ∀ d : Fin 16, 10 ≤ d.val → (Lib.Hx.digit d.val).toNat = 87 + d.val := by decide +kernel

theorem hex_any (d : Nat) (hd : d < 16) (w : World) : Calls Tryd.prog 9 #[.int .u8 ((Lib.Hx.digit d).toNat : Int)] w fun e w' => e = .returned (.int .i64 (d : Int)) ∧ w' = w := by
  by_cases h : d < 10
  · have e := digit_lo ⟨d, hd⟩ h
    refine (hex_lo _ (by simp only [] at e; omega) (by simp only [] at e; omega) w).mono ?_
    rintro _ _ ⟨rfl, rfl⟩
    refine ⟨?_, rfl⟩
    rw [show ((Lib.Hx.digit d).toNat : Int) - 48 = d by simp only [] at e; omega]
  · have e := digit_hi ⟨d, hd⟩ (by simp only []; omega)
    refine (hex_hi _ (by simp only [] at e; omega) (by simp only [] at e; omega) w).mono ?_
    rintro _ _ ⟨rfl, rfl⟩
    refine ⟨?_, rfl⟩
    rw [show ((Lib.Hx.digit d).toNat : Int) - 87 = d by simp only [] at e; omega]

theorem nd_le (u : Nat) (h : u ≤ 9223372036854775808) : Lib.nDigits u ≤ 20 := by
  have h1 := Lib.decDigits_length u
  have h2 := Lib.itoa_length_le
  by_cases hu : u = 9223372036854775808
  · have := h2 (-9223372036854775808) (by omega) (by omega)
    simp only [Lib.itoa] at this
    rw [if_pos (by omega), List.length_cons] at this
    rw [hu] at h1 ⊢
    have e : (-9223372036854775808 : Int).natAbs = 9223372036854775808 := rfl
    rw [e] at this
    omega
  · have := h2 (-(u : Int)) (by omega) (by omega)
    simp only [Lib.itoa] at this
    by_cases h0 : u = 0
    · subst h0; rw [Lib.nDigits_small (by omega)]; omega
    · rw [if_pos (by omega), List.length_cons, show (-(u : Int)).natAbs = u by omega] at this
      omega

theorem itoa_len (l : Int) : (Lib.itoa l).length = Lib.nDigits l.natAbs + (if l < 0 then 1 else 0) := by
  unfold Lib.itoa
  by_cases h : l < 0
  · rw [if_pos h, if_pos h, List.length_cons, Lib.decDigits_length]
  · rw [if_neg h, if_neg h, Lib.decDigits_length, show l.toNat = l.natAbs by omega, Nat.add_zero]

set_option maxHeartbeats 400000 in
theorem declen_any (l : Int) (h0 : -9223372036854775808 ≤ l) (h1 : l ≤ 9223372036854775807) (w : World) : Calls Tryd.prog 11 #[.int .i64 l] w fun e w' => e = .returned (.int .i64 ((Lib.itoa l).length : Int)) ∧ w' = w := by
  have hN := nd_le l.natAbs (by omega)
  have Hlen := hid (itoa_len l)
  obtain ⟨U, hU⟩ : ∃ U, U = l.natAbs := ⟨_, rfl⟩
  have hUb : U ≤ 9223372036854775808 := by omega
  go_enter Tryd.func11, Tryd.ntmps11
  go_wp2_with fail
  refine (mag_any l h0 h1 _).mono ?_
  rintro e w' ⟨rfl, rfl⟩
  rw [← hU] at hN Hlen ⊢
  have HU := hid hU
  clear hU
  go_wp2_with fail
  go_loopg [3, 4] U (fun g su sn wx => w' = wx ∧ ∃ (u n : Nat), su = .int .u64 (u : Int) ∧ sn = .int .i64 (n : Int) ∧ u ≤ 9223372036854775808 ∧ g = u ∧ n + Lib.nDigits u = Lib.nDigits U + 1)
  case atStart => exact ⟨rfl, U, 1, rfl, rfl, hUb, rfl, by omega⟩
  case round =>
    obtain ⟨rfl, u, n, rfl, rfl, hub, hg, hn⟩ := hrel
    have hp := Lib.nDigits_pos u
    by_cases hu : u < 10
    · have h1' := Lib.nDigits_small hu
      have hnv : n = Lib.nDigits U := by omega
      by_cases hl : l < 0
      · go_wp2
        go_ret
        rw [if_pos hl] at Hlen
        have := Hlen.out
        refine ⟨?_, rfl⟩
        rw [this, ← hnv]
        rfl
      · go_wp2
        go_ret
        rw [if_neg (by omega)] at Hlen
        have := Hlen.out
        refine ⟨?_, rfl⟩
        rw [this, ← hnv]
        rfl
    · have h2' := Lib.nDigits_big hu
      have Hn : Hid (n + 1 + Lib.nDigits (u / 10) = Lib.nDigits U + 1) := by unfold Hid; omega
      have hnb : n ≤ 21 := by omega
      clear h2' hn
      have hb2 : u / 10 ≤ 9223372036854775808 := by omega
      have Hb2 := hid hb2
      clear hb2
      go_wp2
      go_roundg (u / 10)
      case measure => omega
      case rel => exact ⟨rfl, u / 10, n + 1, by go_num, by go_num, Hb2.out, rfl, Hn.out⟩
end Go.Proofs.Qxb6630671aDoor
