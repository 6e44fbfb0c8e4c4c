/-
  The walk of 'FnEqualFoldCutJoinAndBitFlip'.
-/
import Derived.Test.Qxb6629319aFold
import Derived.Deep.RegionWith
namespace Go.Proofs.Qxb6629319a
open Go.RowKit
set_option linter.unusedVariables false

set_option maxHeartbeats 400000 in
theorem bytesA_any (a b : ByteArray) (k : Int) (w : World) (ha : a.size ≤ maxLen) (hb : b.size ≤ maxLen) :
    Calls Try.prog 5 #[.string a, .string b, .int .i64 k] w fun e w' => ∃ r : Bool, e = .returned (.bool r) ∧ w' = w := by
  unfold maxLen at ha hb
  go_enter Try.func5, Try.ntmps5
  go_wp2
  all_goals (go_ret; exact ⟨_, rfl, rfl⟩)

theorem Drew.below {w w' : World} (h : Drew w w') (B : Nat) : Below B w w' := by
  obtain ⟨n, rfl⟩ := h
  exact ⟨rfl, rfl, rfl, Nat.le_refl _, fun _ _ => rfl⟩

theorem drewsize {w w' : World} (h : Drew w w') : w'.heap.size = w.heap.size := by
  obtain ⟨n, rfl⟩ := h; rfl

/-- '[]byte(a)', in words: a new row that holds the bytes and may be written. -/
theorem conv_bytes (a : ByteArray) (w : World) : ∃ (cap : Nat) (w' : World), (convert 9 24 (.string a)).run Try.prog w = .ok (.slice (some ⟨w.heap.size, 0, none⟩) a.size cap) w' ∧
    (∀ j (h : j < a.size), w'.cell? ⟨w.heap.size, j, none⟩ = some (.int .u8 (a[j].toNat : Int))) ∧ (∀ j, j < a.size → w'.frozen? ⟨w.heap.size, j, none⟩ = false) ∧ Below w.heap.size w w' := by
  refine ⟨_, _, run_bytes_of_string (P := Try.prog) w 9 24 5 a Try.underlying9 Try.underlying24 Try.underlying5, ?_, ?_, ?_⟩
  · intro j h
    have hd : j < a.data.size := h
    simp only [World.cell?, World.alloc, World.drew, bytesRow, Array.getElem?_push, if_true, Array.getElem?_append, Array.size_map, hd, Array.getElem?_map, Array.getElem?_eq_getElem hd]
    rfl
  · intro j h
    have hd : j < a.data.size := h
    simp [World.frozen?, World.alloc, World.drew, -World.alloc_eq, -World.drew_eq, bytesRow]
    omega
  · exact (Below.refl _ _).drew.alloc (Nat.le_refl _) _
theorem bits_flip (c : UInt8) : ∃ d : UInt8, bits .xor .u8 (c.toNat : Int) 1 = (d.toNat : Int) ∧ d.toNat = c.toNat ^^^ 1 := by
  have : ∀ n : Nat, n < 256 → bits .xor .u8 (n : Int) 1 = ((n ^^^ 1 : Nat) : Int) ∧ n ^^^ 1 < 256 := by decide +kernel
  have h := this c.toNat (UInt8.toNat_lt c)
  refine ⟨UInt8.ofNat (c.toNat ^^^ 1), ?_, ?_⟩
  · rw [h.1, UInt8.toNat_ofNat', Nat.mod_eq_of_lt h.2]
  · rw [UInt8.toNat_ofNat', Nat.mod_eq_of_lt h.2]

/-- 'string(bs)' behind the one store. -/
theorem conv_back (a : ByteArray) (w : World) (B cap k : Nat) (hk : k < a.size) (d : UInt8)
    (hcell : ∀ j (h : j < a.size), w.cell? ⟨B, j, none⟩ = some (.int .u8 (a[j].toNat : Int))) :
    (convert 24 9 (.slice (some ⟨B, 0, none⟩) a.size cap)).run Try.prog (w.setCell ⟨B, k, none⟩ (.int .u8 (d.toNat : Int))) = .ok (.string ⟨(a.data.toList.set k d).toArray⟩) (w.setCell ⟨B, k, none⟩ (.int .u8 (d.toNat : Int))) := by
  have h := run_convert_bytes_back (P := Try.prog) (w.setCell ⟨B, k, none⟩ (.int .u8 (d.toNat : Int))) 24 9 5 ⟨B, 0, none⟩ cap (a.data.toList.set k d) Try.underlying24 Try.underlying5 Try.underlying9 (by
    intro j hj
    have hj' : j < a.size := by simpa using hj
    have e : (⟨B, 0, none⟩ : Addr).add j = ⟨B, j, none⟩ := by unfold Addr.add; split <;> simp_all
    rw [e]
    by_cases hjk : j = k
    · subst hjk
      rw [World.cell?_setCell_same _ _ _ (hcell j hj'), List.getElem_set_self]
    · have hne : (⟨B, k, none⟩ : Addr) ≠ ⟨B, j, none⟩ := fun hh => hjk (by injection hh with _ h2; exact h2.symm)
      rw [World.cell?_setCell_other _ _ _ _ hne, hcell j hj', List.getElem_set_ne (by omega)]
      rfl)
  rw [show (a.data.toList.set k d).length = a.size by simp] at h
  exact h

/-- 'EqualFold' with its answer known. -/
theorem equal_is (r : Bool) (a b : ByteArray) (w : World) (ha : a.size ≤ 65536) (h : eqf a.data.toList b.data.toList = r) :
    Calls Try.prog 6 #[.string a, .string b] w fun e w' => e = .returned (.bool r) ∧ ∃ n, w' = w.drewN n := by
  subst h; exact equal_any a b w (by unfold maxLen; omega)

theorem ext_l (a : ByteArray) (k : Nat) : (a.extract 0 k).data.toList = a.data.toList.take k := by simp
theorem ext_r (a : ByteArray) (k : Nat) : (a.extract k a.size).data.toList = a.data.toList.drop k := by
  simp only [ByteArray.data_extract, Array.toList_extract, List.extract_eq_take_drop]
  exact List.take_of_length_le (by simp)

set_option maxHeartbeats 400000 in
theorem walkA (a b : ByteArray) (k : Int) (ha : a.size ≤ maxLen) (hb : b.size ≤ maxLen) (w : World) :
    Calls Try.prog 3 #[.string a, .string b, .int .i64 k] w fun e w' => e = .returned (.bool true) ∧ Below w.heap.size w w' := by
  go_enter Try.func3, Try.ntmps3
  go_wp2_with fail
  refine (bytesA_any _ _ _ _ ha hb).mono ?_
  rintro e w' ⟨r, rfl, rfl⟩
  unfold maxLen at ha hb
  cases r
  · go_wp2
    go_ret
    exact ⟨rfl, Below.refl _ _⟩
  by_cases hA : 65536 < a.size
  · go_wp2
    go_ret
    exact ⟨rfl, Below.refl _ _⟩
  by_cases hB : 65536 < b.size
  · go_wp2
    go_ret
    exact ⟨rfl, Below.refl _ _⟩
  by_cases hk : k < 0
  · go_wp2
    go_ret
    exact ⟨rfl, Below.refl _ _⟩
  obtain ⟨k, rfl⟩ := Int.eq_ofNat_of_zero_le (Int.not_lt.1 hk)
  clear hk
  by_cases hka : a.size < k
  · go_wp2
    go_ret
    exact ⟨rfl, Below.refl _ _⟩
  by_cases hkb : b.size < k
  · go_wp2
    go_ret
    exact ⟨rfl, Below.refl _ _⟩
  go_wp2_with fail
  refine (equal_any _ _ _ (by unfold maxLen; omega)).mono ?_
  rintro e w1 ⟨rfl, d1⟩
  have hcut := eqf_cut a.data.toList b.data.toList k (by simp; omega) (by simp; omega)
  rw [← ext_l, ← ext_l, ← ext_r, ← ext_r] at hcut
  have s1 : (a.extract 0 k).size ≤ 65536 := by simp; omega
  have s2 : (a.extract k a.size).size ≤ 65536 := by simp; omega
  generalize hP : eqf (a.extract 0 k).data.toList (b.extract 0 k).data.toList = P at hcut
  generalize hT : eqf (a.extract k a.size).data.toList (b.extract k b.size).data.toList = T at hcut
  have HP : Hid (eqf (a.extract 0 k).data.toList (b.extract 0 k).data.toList = P) := hP
  have HT : Hid (eqf (a.extract k a.size).data.toList (b.extract k b.size).data.toList = T) := hT
  have S1 : Hid ((a.extract 0 k).size ≤ 65536) := s1
  have S2 : Hid ((a.extract k a.size).size ≤ 65536) := s2
  have hcut2 : eqf a.data.toList b.data.toList = (P && T) := hcut
  rw [hcut2]
  clear hP hT hcut hcut2 s1 s2
  go_wp2_with fail
  have A1 : Hid (a.size ≤ 65536) := Nat.le_of_not_lt hA
  have B1 : Hid (b.size ≤ 65536) := Nat.le_of_not_lt hB
  cases P
  case' false => go_quiet ((go_at_call 6; exact Calls.quiet_of (equal_is false _ _ _ S1.out HP.out)))
  case' true => go_quiet (first | (go_at_call_of 6 (Value.string (a.extract 0 k)); exact Calls.quiet_of (equal_is true _ _ _ S1.out HP.out)) | (go_at_call 6; exact Calls.quiet_of (equal_is T _ _ _ S2.out HT.out)))
  all_goals
    have d2 := d1.more nq
    generalize World.drewN w1 nq = w2 at d2 ⊢
    clear d1
    go_wp2_with fail
    refine (equal_is true a a _ A1.out (eqf_refl _)).mono ?_
    rintro e w3 ⟨rfl, d3⟩
    replace d3 : Drew _ _ := d3
    go_wp2_with fail
    refine (equal_is true b b _ B1.out (eqf_refl _)).mono ?_
    rintro e w4 ⟨rfl, d4⟩
    replace d4 : Drew _ _ := d4
    by_cases hka2 : k < a.size
    · obtain ⟨cap, w5, hcv, hcell, hfro, hbel⟩ := conv_bytes a w4
      have hc := hcell k hka2
      have hf := hfro k hka2
      have Hcell : Hid (∀ j (h : j < a.size), w5.cell? ⟨w4.heap.size, j, none⟩ = some (.int .u8 (a[j].toNat : Int))) := hcell
      clear hcell hfro
      obtain ⟨d, hd1, hd2⟩ := bits_flip a[k]
      have hback := conv_back a w5 w4.heap.size cap k hka2 d Hcell.out
      have Hfl : Hid (eqf a.data.toList (a.data.toList.set k d) = false) := eqf_flip _ k (by simpa using hka2) d hd2
      clear hd2
      go_wp2_with fail
      refine (equal_is false a _ _ A1.out Hfl.out).mono ?_
      rintro e w6 ⟨rfl, d6⟩
      replace d6 : Drew _ _ := d6
      go_wp2
      go_ret
      refine ⟨rfl, ?_⟩
      have hs := drewsize ((d2.trans d3).trans d4)
      rw [← hs] at *
      exact (((((d2.trans d3).trans d4).below _).trans hbel).setCell (Nat.le_refl _) _).trans (d6.below _)
    · go_wp2
      go_ret
      exact ⟨rfl, ((d2.trans d3).trans d4).below _⟩
end Go.Proofs.Qxb6629319a
