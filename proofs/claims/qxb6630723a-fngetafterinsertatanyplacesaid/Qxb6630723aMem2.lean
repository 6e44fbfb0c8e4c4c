/-
  For the second law: the bounds on length; the row with one member put in; what Get answers there.
-/
import Derived.Test.Qxb6630723aMem
namespace Go.Proofs.Qxb6630723a
open Go.RowKit
set_option linter.unusedVariables false
set_option linter.unusedSimpArgs false

set_option maxRecDepth 10000 in
set_option maxHeartbeats 400000 in
theorem bytesI_any (kind : Int) (v : Value) (ks : List ByteArray) (cut : Int) (key probe : ByteArray) (w : World) (hR : Rs w v ks) (hl : ks.length ≤ 9223372036854775807) (hz : ∀ j (h : j < ks.length), ks[j].size ≤ 9223372036854775807) (hkey : key.size ≤ 9223372036854775807) (hprobe : probe.size ≤ 9223372036854775807) :
    Calls Try.prog 7 #[.int .u8 kind, v, .int .i64 cut, .string key, .string probe] w fun e w' => BPost2 w ks key probe e w' := by
  obtain ⟨a, cap, rfl⟩ := hR.form
  by_cases hA : 1048576 < ks.length
  · go_enter Try.func7, Try.ntmps7
    go_wp2
    go_ret
    exact bp2_mk false (fun h => by cases h)
  have Hz : Hid (∀ j (h : j < ks.length), ks[j].size ≤ 9223372036854775807) := hz
  clear hz
  have HC : Hid (∀ j (h : j < ks.length), ∃ b off, a = some ⟨b, off, none⟩ ∧ ks.length ≤ cap ∧ w.cell? ⟨b, off + j, none⟩ = some (.string ks[j])) := by
    intro j hj
    rcases hR with ⟨rfl, _⟩ | ⟨hp, b, off, cap', e, hc, hcell⟩
    · simp at hj
    · simp only [Value.slice.injEq] at e
      obtain ⟨rfl, _, rfl⟩ := e
      exact ⟨b, off, rfl, hc, hcell j hj⟩
  clear hR
  go_enter Try.func7, Try.ntmps7
  go_wp2
  go_loopg [11, 12] ks.length (fun g sn si wx => w = wx ∧ ∃ (k : Nat) (z : Int), k ≤ ks.length ∧ g = ks.length - k ∧ si = .int .i64 k ∧ sn = .int .i64 z ∧ 0 ≤ z ∧ z ≤ 1048576 ∧ ∀ j (h : j < ks.length), j < k → ks[j].size ≤ 1048576)
  case atStart => exact ⟨rfl, 0, _, Nat.zero_le _, rfl, rfl, rfl, by omega, by omega, fun j _ h => by omega⟩
  case round =>
    obtain ⟨rfl, k, z, hk, rfl, rfl, rfl, z1, z2, hall⟩ := hrel
    have Hall : Hid (∀ j (h : j < ks.length), j < k → ks[j].size ≤ 1048576) := hall
    clear hall
    by_cases hlt : k < ks.length
    · obtain ⟨b, off, rfl, hc, hcell⟩ := HC.out k hlt
      have hsz := Hz.out k hlt
      by_cases hbig : 1048576 < ks[k].size
      · go_wp2
        go_ret
        exact bp2_mk false (fun h => by cases h)
      by_cases hsum : 1048576 < z + ks[k].size
      · go_wp2
        go_ret
        exact bp2_mk false (fun h => by cases h)
      · go_wp2
        go_roundg (ks.length - (k + 1))
        case measure => omega
        case rel =>
          refine ⟨rfl, k + 1, _, by omega, rfl, by go_num, rfl, by omega, by omega, fun j hj hjk => ?_⟩
          by_cases e : j = k
          · subst e; omega
          · exact Hall.out j hj (by omega)
    · have Hall2 : Hid (∀ j (h : j < ks.length), ks[j].size ≤ 1048576) := fun j hj => Hall.out j hj (by omega)
      clear Hall
      go_wp2
      all_goals go_ret
      all_goals first
        | exact bp2_mk false (fun h => by cases h)
        | exact bp2_mk true (fun _ => ⟨by omega, by omega, by omega, Hall2.out⟩)

/-- The keys with one put in at place c. -/
def ins (ks : List ByteArray) (c : Nat) (key : ByteArray) : List ByteArray := ks.take c ++ key :: ks.drop c
/-- Where their values lie: in V, the new one last. -/
def insQ (V n c : Nat) (j : Nat) : Addr := if j < c then ⟨V, j * 4, none⟩ else if j = c then ⟨V, n * 4, none⟩ else ⟨V, (j - 1) * 4, none⟩

theorem ins_length (ks : List ByteArray) (c : Nat) (key : ByteArray) (hc : c ≤ ks.length) : (ins ks c key).length = ks.length + 1 := by
  simp [ins]; omega
theorem ins_lt (ks : List ByteArray) (c : Nat) (key : ByteArray) (hc : c ≤ ks.length) (j : Nat) (hj : j < c) (h : j < (ins ks c key).length) (h' : j < ks.length) : (ins ks c key)[j] = ks[j] := by
  simp only [ins]
  rw [List.getElem_append_left (by simp; omega), List.getElem_take]
theorem ins_at (ks : List ByteArray) (c : Nat) (key : ByteArray) (hc : c ≤ ks.length) (h : c < (ins ks c key).length) : (ins ks c key)[c] = key := by
  simp only [ins]
  rw [List.getElem_append_right (by simp; omega)]
  simp [Nat.min_eq_left hc]
theorem ins_gt (ks : List ByteArray) (c : Nat) (key : ByteArray) (hc : c ≤ ks.length) (j : Nat) (hj : c ≤ j) (h : j + 1 < (ins ks c key).length) (h' : j < ks.length) : (ins ks c key)[j + 1] = ks[j] := by
  simp only [ins]
  rw [List.getElem_append_right (by simp; omega)]
  simp only [List.length_take, Nat.min_eq_left hc, show j + 1 - c = (j - c) + 1 by omega, List.getElem_cons_succ, List.getElem_drop, show c + (j - c) = j by omega]
theorem insQ_lt (V n c j : Nat) (h : j < c) : insQ V n c j = ⟨V, j * 4, none⟩ := by simp [insQ, h]
theorem insQ_at (V n c : Nat) : insQ V n c c = ⟨V, n * 4, none⟩ := by simp [insQ]
theorem insQ_gt (V n c j : Nat) (h : c ≤ j) : insQ V n c (j + 1) = ⟨V, j * 4, none⟩ := by
  unfold insQ
  rw [if_neg (by omega), if_neg (by omega), show j + 1 - 1 = j by omega]

/-- A member of the row with one put in, as the walk writes it. -/
theorem ins_step1 (ks : List ByteArray) (V c : Nat) (key : ByteArray) (hc : c ≤ ks.length) (k : Nat) (hk : k < c) (h : k < ks.length) (i : Nat) :
    (if i = k * 2 + 1 then .pointer (some ⟨V, k * 4, none⟩) else if i = k * 2 then .string ks[k] else mRow (ins ks c key) (fun j => .pointer (some (insQ V ks.length c j))) k i) = mRow (ins ks c key) (fun j => .pointer (some (insQ V ks.length c j))) (k + 1) i := by
  have hl := ins_length ks c key hc
  rw [← mRow_step _ _ k (by omega), insQ_lt V _ c k hk, ins_lt ks c key hc k hk (by omega) h]
theorem ins_step2 (ks : List ByteArray) (V c : Nat) (key : ByteArray) (hc : c ≤ ks.length) (i : Nat) :
    (if i = c * 2 + 1 then .pointer (some ⟨V, ks.length * 4, none⟩) else if i = c * 2 then .string key else mRow (ins ks c key) (fun j => .pointer (some (insQ V ks.length c j))) c i) = mRow (ins ks c key) (fun j => .pointer (some (insQ V ks.length c j))) (c + 1) i := by
  have hl := ins_length ks c key hc
  rw [← mRow_step _ _ c (by omega), insQ_at V _ c, ins_at ks c key hc (by omega)]
theorem ins_step3 (ks : List ByteArray) (V c : Nat) (key : ByteArray) (hc : c ≤ ks.length) (k : Nat) (hk : c ≤ k) (h : k < ks.length) (i : Nat) :
    (if i = (k + 1) * 2 + 1 then .pointer (some ⟨V, k * 4, none⟩) else if i = (k + 1) * 2 then .string ks[k] else mRow (ins ks c key) (fun j => .pointer (some (insQ V ks.length c j))) (k + 1) i) = mRow (ins ks c key) (fun j => .pointer (some (insQ V ks.length c j))) (k + 1 + 1) i := by
  have hl := ins_length ks c key hc
  rw [← mRow_step _ _ (k + 1) (by omega), insQ_gt V _ c k hk, ins_gt ks c key hc k hk (by omega) h]

/-- What the three answers are. -/
theorem ins_found (V : Nat) (key probe : ByteArray) (ks : List ByteArray) (c : Nat) (hc : c ≤ ks.length) (vG vO vP : Value)
    (hG : found (fun j => .pointer (some (insQ V ks.length c j))) probe (ins ks c key) 0 = vG)
    (hO : found (fun j => .pointer (some (⟨V, j * 4, none⟩ : Addr))) probe ks 0 = vO)
    (hP : found (fun j => .pointer (some (⟨V, j * 4, none⟩ : Addr))) key (ks.take c) 0 = vP) :
    ((∀ j (h : j < ks.length), ks[j] ≠ probe) ∧ vO = .pointer none ∧ ((probe = key ∧ vP = .pointer none ∧ vG = .pointer (some ⟨V, ks.length * 4, none⟩)) ∨ (probe ≠ key ∧ vG = .pointer none))) ∨
    ∃ f, ∃ h : f < ks.length, ks[f] = probe ∧ vO = .pointer (some ⟨V, f * 4, none⟩) ∧
      ((probe = key ∧ vP = .pointer none ∧ vG = .pointer (some ⟨V, ks.length * 4, none⟩)) ∨ (probe = key ∧ vP = .pointer (some ⟨V, f * 4, none⟩) ∧ vG = .pointer (some ⟨V, f * 4, none⟩)) ∨ (probe ≠ key ∧ vG = .pointer (some ⟨V, f * 4, none⟩))) := by
  have hl := ins_length ks c key hc
  -- the new one is found where nothing ahead of it has the key
  have new : (∀ j (h : j < ks.length), j < c → ks[j] ≠ probe) → probe = key → vP = .pointer none ∧ vG = .pointer (some ⟨V, ks.length * 4, none⟩) := by
    intro hno e
    subst e
    constructor
    · rw [← hP]
      exact found_no _ _ _ fun j hj => by
        have hjc : j < c := by simp at hj; omega
        rw [List.getElem_take]; exact hno j (by omega) hjc
    · rw [← hG, found_at _ _ _ c (by omega) (fun j hj hjc => by rw [ins_lt ks c probe hc j hjc hj (by omega)]; exact hno j (by omega) hjc) (ins_at ks c probe hc (by omega)), insQ_at]
  rcases found_cases (fun j => .pointer (some (⟨V, j * 4, none⟩ : Addr))) probe ks with h | ⟨f, hf, he, hall⟩
  · left
    refine ⟨h, by rw [← hO]; exact found_no _ _ _ h, ?_⟩
    by_cases e : probe = key
    · exact .inl ⟨e, new (fun j hj _ => h j hj) e⟩
    · refine .inr ⟨e, ?_⟩
      rw [← hG]
      refine found_no _ _ _ fun j hj => ?_
      rcases Nat.lt_trichotomy j c with hjc | rfl | hjc
      · rw [ins_lt ks c key hc j hjc hj (by omega)]; exact h j (by omega)
      · rw [ins_at ks j key hc hj]; exact fun x => e x.symm
      · obtain ⟨i, rfl⟩ : ∃ i, j = i + 1 := ⟨j - 1, by omega⟩
        rw [ins_gt ks c key hc i (by omega) hj (by omega)]; exact h i (by omega)
  · right
    refine ⟨f, hf, he, by rw [← hO]; exact found_at _ _ _ f hf hall he, ?_⟩
    by_cases hfc : f < c
    · have g : vG = .pointer (some ⟨V, f * 4, none⟩) := by
        rw [← hG, found_at _ _ _ f (by omega) (fun j hj hjf => by rw [ins_lt ks c key hc j (by omega) hj (by omega)]; exact hall j (by omega) hjf) (by rw [ins_lt ks c key hc f hfc (by omega) hf]; exact he), insQ_lt V _ c f hfc]
      by_cases e : probe = key
      · refine .inr (.inl ⟨e, ?_, g⟩)
        rw [← hP]
        exact found_at _ _ _ f (by simp; omega) (fun j hj hjf => by rw [List.getElem_take]; exact fun x => hall j (by omega) hjf (x.trans e.symm)) (by rw [List.getElem_take]; exact he.trans e)
      · exact .inr (.inr ⟨e, g⟩)
    · by_cases e : probe = key
      · exact .inl ⟨e, new (fun j hj hjc => hall j hj (by omega)) e⟩
      · refine .inr (.inr ⟨e, ?_⟩)
        rw [← hG, found_at _ _ _ (f + 1) (by omega) (fun j hj hjf => ?_) (by rw [ins_gt ks c key hc f (by omega) (by omega) hf]; exact he), insQ_gt V _ c f (by omega)]
        rcases Nat.lt_trichotomy j c with hjc | rfl | hjc
        · rw [ins_lt ks c key hc j hjc hj (by omega)]; exact hall j (by omega) (by omega)
        · rw [ins_at ks j key hc hj]; exact fun x => e x.symm
        · obtain ⟨i, rfl⟩ : ∃ i, j = i + 1 := ⟨j - 1, by omega⟩
          rw [ins_gt ks c key hc i (by omega) hj (by omega)]; exact hall i (by omega) (by omega)

/-- The law's own search: is the probe among the keys from k on? -/
def Inn (ks : List ByteArray) (probe : ByteArray) (k : Nat) (b : Bool) : Prop := b = true ↔ ∃ j, ∃ h : j < ks.length, k ≤ j ∧ ks[j] = probe
theorem Inn_start (ks : List ByteArray) (probe : ByteArray) : Inn ks probe ks.length false :=
  ⟨(fun h => by cases h), (fun ⟨j, h, h', _⟩ => by omega)⟩
theorem Inn_hit {ks : List ByteArray} {probe : ByteArray} {k : Nat} (h : k < ks.length) (he : ks[k] = probe) : Inn ks probe k true :=
  ⟨fun _ => ⟨k, h, Nat.le_refl _, he⟩, fun _ => rfl⟩
theorem Inn_miss {ks : List ByteArray} {probe : ByteArray} {k : Nat} {b : Bool} (h : k < ks.length) (he : ks[k] ≠ probe) (hI : Inn ks probe (k + 1) b) : Inn ks probe k b := by
  constructor
  · intro hb
    obtain ⟨j, hj, hk, e⟩ := hI.1 hb
    exact ⟨j, hj, by omega, e⟩
  · rintro ⟨j, hj, hk, e⟩
    refine hI.2 ⟨j, hj, ?_, e⟩
    rcases Nat.lt_or_ge k j with h' | h'
    · exact h'
    · obtain rfl : j = k := by omega
      exact absurd e he
theorem Inn_none {ks : List ByteArray} {probe : ByteArray} {b : Bool} (hI : Inn ks probe 0 b) (h : ∀ j (h : j < ks.length), ks[j] ≠ probe) : b = false := by
  cases b
  · rfl
  · obtain ⟨j, hj, _, e⟩ := hI.1 rfl
    exact absurd e (h j hj)
theorem Inn_some {ks : List ByteArray} {probe : ByteArray} {b : Bool} (hI : Inn ks probe 0 b) (f : Nat) (hf : f < ks.length) (he : ks[f] = probe) : b = true := hI.2 ⟨f, hf, Nat.zero_le _, he⟩

end Go.Proofs.Qxb6630723a
