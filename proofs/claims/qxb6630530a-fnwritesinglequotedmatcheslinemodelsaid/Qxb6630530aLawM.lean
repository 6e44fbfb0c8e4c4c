/-
  The walk of 'FnWriteSingleQuotedMatchesLineModel'.
-/
import Derived.Test.Qxb6630530aWrap
import Derived.Test.Qxb6630530aModel
import Derived.Test.Qxb6630530aValid
namespace Go.Proofs.Qxb6630530a
open Go.RowKit
set_option linter.unusedVariables false

/-- The emitter over a buffer that was there before its own block. -/
theorem em_new {N : Nat} {w1 w2 w3 : World} {v1 : Value} {l : List UInt8} {col ind : Int} {ws inn : Bool} (hB : Bf (fun k => k < N) w1 v1 l) (h12 : Keep (fun k => k < w1.heap.size) w1 w2) (h23 : Keep (fun k => k < w2.heap.size) w2 w3)
    (hbox : Box w3 w2.heap.size v1 col ind ws inn) : Em (fun k => k < w2.heap.size ∧ v1.ownBlock ≠ some k) w3 w3 w2.heap.size l col ind ws inn := by
  refine ⟨v1, Keep.refl _ _, fun h => Nat.lt_irrefl _ h.1, hbox, ?_, ?_, ?_⟩
  · refine own_of_block hB.own fun k hk => ?_
    have hlt := (hB.own.lt k hk).2
    rw [h23.block k (Nat.lt_of_lt_of_le hlt h12.size), h12.block k hlt]
  · have hE : w2.heap.size < w3.heap.size := by
      have := hbox
      unfold Box at this
      exact (Array.getElem?_eq_some_iff.1 this).1
    rintro k (h | h)
    · exact Nat.lt_trans h.1 hE
    · rw [h]; exact hE
  · rintro k (h | h)
    · exact h.2
    · intro e
      have := (hB.own.lt k e).2
      have := h12.size
      omega

/-- Behind the emitter's run: the model's buffer still reads; nothing old has turned. -/
theorem fin_ok {w0 w1 w2 w3 w5 : World} {v1 v2 : Value} {l r : List UInt8} (hB1 : Bf (fun k => k < w0.heap.size) w1 v1 l) (hk1 : Keep (fun k => k < w0.heap.size) w0 w1) (hB2 : Bf (fun k => k < w1.heap.size) w2 v2 r)
    (hk2 : Keep (fun k => k < w1.heap.size) w1 w2) (hk3 : Keep (fun k => k < w2.heap.size) w2 w3) (kS : Keep (fun k => k < w2.heap.size ∧ v1.ownBlock ≠ some k) w3 w5) :
    Rd w5 v2 r ∧ Keep (fun k => k < w0.heap.size) w0 w5 := by
  have z1 := hk1.size
  have z2 := hk2.size
  refine ⟨Rd.of_own (own_of_block hB2.own fun k hk => ?_), ?_⟩
  · have hlt := (hB2.own.lt k hk).2
    have hne : v1.ownBlock ≠ some k := fun e => by
      have h1 := (hB1.own.lt k e).2
      exact hB2.far k h1 hk
    rw [kS.block k ⟨hlt, hne⟩, hk3.block k hlt]
  · refine ((hk1.trans (hk2.mono fun k hk => by omega)).trans (hk3.mono fun k hk => by omega)).trans (kS.mono fun k hk => ⟨by omega, hB1.far k hk⟩)

theorem model_at (w : World) (v0 : Value) (l0 : List UInt8) (hR : Rd w v0 l0) (c0 : Int) (pad : Nat) (P : Int) (hP : P = pad) (ws fold : Bool) (s : ByteArray) (hpad : pad ≤ 65536) (hs : s.size ≤ 1048576) (hl0 : l0.length ≤ 1048576)
    (hV : V s.data.toList 0) (h1 : -1073741824 ≤ c0) (h2 : c0 ≤ 1073741824) (R : List UInt8 × Int) (hS : scalar s.data.toList pad fold ws l0 c0 = R) :
    Calls Try.prog 8 #[v0, .int .i64 c0, .int .i64 P, .bool ws, .string s, .bool fold] w fun e w' => ∃ v', e = .returned (.tuple #[v', .int .i64 R.2]) ∧
      Bf (fun k => k < w.heap.size) w' v' R.1 ∧ Keep (fun k => k < w.heap.size) w w' := by
  subst hP hS
  exact model_any w v0 l0 hR c0 pad ws fold s hpad hs hl0 hV h1 h2

theorem zzwsq_at {S : Nat → Prop} {W w : World} {E : Nat} {l : List UInt8} {col ind : Int} {ws inn : Bool} (h : Em S W w E l col ind ws inn) (s : ByteArray) (fold : Bool) (pad : Nat) (hp : max ind 0 = (pad : Int)) (hpad : pad ≤ 65536)
    (hs : s.size ≤ 1048576) (hV : V s.data.toList 0) (hl : l.length ≤ 2097152) (h1 : -1073741824 ≤ col) (h2 : col ≤ 1073741824) (R : List UInt8 × Int) (hS : scalar s.data.toList pad fold ws l col = R) :
    Calls Try.prog 10 #[.pointer (some ⟨E, 0, none⟩), .string s, .bool fold] w fun e w' => e = .returned (.tuple #[]) ∧ Em S W w' E R.1 R.2 ind false false := by
  subst hS
  exact zzwsq_any h s fold pad hp hpad hs hV hl h1 h2

theorem lay_len (s : List UInt8) (pad : Nat) (hp : pad ≤ 65536) (fold : Bool) : ∀ (n i : Nat) (sp br : Bool) (l : List UInt8) (c : Int), V s i → i ≤ s.length → (br = true → 0 ≤ c) → (lay s pad fold n i sp br l c).1.length ≤ l.length + (s.length - i) * 70000 := by
  intro n
  induction n with
  | zero => intro i sp br l c _ _ _; simp [lay]
  | succ n ih =>
    intro i sp br l c hV hi hc
    rcases Nat.lt_or_ge i s.length with hlt | hge
    · by_cases h32 : bt s i = 32
      · have hV' := V_of hV hlt h32
        by_cases hf : fold = true ∧ sp = false ∧ 80 < c ∧ 0 < i ∧ i + 1 < s.length ∧ bt s (i + 1) ≠ 32
        · rw [lay_fold hlt h32 hf]
          have := ih (i + 1) true br (l ++ 10 :: List.replicate pad 32) pad hV' (by omega) (by omega)
          rw [List.length_append, List.length_cons, List.length_replicate] at this
          omega
        · rw [lay_space hlt h32 hf]
          have := ih (i + 1) true br (l ++ [32]) (c + 1) hV' (by omega) (fun h => by have := hc h; omega)
          rw [List.length_append, List.length_singleton] at this
          omega
      · by_cases hb : brk s i = 0
        · rw [lay_char hlt h32 hb]
          obtain ⟨v1, v2, v3, v4⟩ := V_inv hV hlt
          have hp1 := cw_pos (bt s i)
          have hp4 := cw_le (bt s i)
          have hx : (if br then indL pad l c else l).length ≤ l.length + 65537 := by
            cases br
            · simp
            · have := indL_len pad l c (hc rfl); simp; omega
          refine Nat.le_trans (ih (i + cw (bt s i)) false false _ _ v4 v2 (fun h => by cases h)) ?_
          rw [List.length_append, sub_length v2]
          split
          · rw [List.length_append]; simp only [List.length_singleton]; omega
          · omega
        · rw [lay_brk hlt hb]
          have hle := brk_lt hb
          have h3 := brk_le s i
          have := ih (i + brk s i) true true (l ++ sub s i (brk s i)) 0 (V_brk hV hlt hb) hle (fun _ => Int.le_refl _)
          rw [List.length_append, sub_length hle] at this
          omega
    · rw [lay_end hge]; show l.length ≤ _; omega

theorem scalar_len (s : List UInt8) (pad : Nat) (hp : pad ≤ 65536) (fold ws : Bool) (l : List UInt8) (c : Int) (hV : V s 0) (hs : s.length ≤ 1048576) (hl : l.length ≤ 1048576) : (scalar s pad fold ws l c).1.length ≤ 100000000000 := by
  unfold scalar
  have h := lay_len s pad hp fold s.length 0 false false ((if ws then l else l ++ [32]) ++ [39]) ((if ws then c else c + 1) + 1) hV (Nat.zero_le _) (fun h => by cases h)
  simp only [List.length_append, List.length_singleton] at h ⊢
  have hx : (if ws = true then l else l ++ [32]).length ≤ l.length + 1 := by cases ws <;> simp
  omega

set_option maxRecDepth 10000 in
set_option maxHeartbeats 2000000 in
theorem walkM (a0 : Option Addr) (cap0 : Nat) (l : List UInt8) (w : World) (hR : Rd w (.slice a0 l.length cap0) l) (hl : l.length ≤ 9223372036854775807) (col ind : Int) (ws inn fold : Bool) (s : ByteArray) (hs : s.size ≤ 9223372036854775807)
    (i1 : -9223372036854775808 ≤ ind) (i2 : ind ≤ 9223372036854775807) :
    Calls Try.prog 3 #[.slice a0 l.length cap0, .int .i64 col, .int .i64 ind, .bool ws, .bool inn, .string s, .bool fold] w fun e w' => e = .returned (.bool true) ∧ Below w.heap.size w w' := by
  go_enter Try.func3, Try.ntmps3
  go_wp2_with fail
  refine (bytesM_any _ _ _ _ _ _ _ _ _ _ hl hs).mono ?_
  rintro e w0 ⟨r, rfl, rfl⟩
  cases r
  · go_wp2
    go_ret
    exact ⟨rfl, Below.refl _ _⟩
  by_cases hA : 1048576 < l.length
  · go_wp2
    go_ret
    exact ⟨rfl, Below.refl _ _⟩
  by_cases hB : 1048576 - l.length < s.size
  · go_wp2
    go_ret
    exact ⟨rfl, Below.refl _ _⟩
  by_cases hc1 : col < -1073741824
  · go_wp2
    go_ret
    exact ⟨rfl, Below.refl _ _⟩
  by_cases hc2 : 1073741824 < col
  · go_wp2
    go_ret
    exact ⟨rfl, Below.refl _ _⟩
  by_cases hi1 : 65536 < ind
  · go_wp2
    go_ret
    exact ⟨rfl, Below.refl _ _⟩
  have hs2 : s.size ≤ 1048576 := by omega
  have hl2 : l.length ≤ 1048576 := by omega
  have hcs : (∃ p : Nat, ind = (p : Int)) ∨ ind < 0 := by
    by_cases h : ind < 0
    · exact .inr h
    · exact .inl ⟨ind.toNat, by omega⟩
  rcases hcs with ⟨p, rfl⟩ | hneg
  · have hpn : p ≤ 65536 := by omega
    have hmx : Hid (max (p : Int) 0 = (p : Int)) := by unfold Hid; omega
    by_cases hp0 : 0 < p
    · go_wp2_with fail
      · go_ret
        exact ⟨rfl, Below.refl _ _⟩
      refine (valid_any s _ hs2).mono ?_
      rintro e wv ⟨r, rfl, hVr, rfl⟩
      cases r
      · go_wp2
        go_ret
        exact ⟨rfl, Below.refl _ _⟩
      have HV : Hid (V s.data.toList 0) := hVr rfl
      clear hVr
      obtain ⟨R, HS⟩ : ∃ R, Hid (scalar s.data.toList p fold ws l col = R) := ⟨_, hid rfl⟩
      have HRl : Hid (R.1.length ≤ 100000000000) := by rw [← HS.out]; exact scalar_len _ _ hpn _ _ _ _ HV.out (by simpa using hs2) hl2
      go_wp2_with fail
      refine (clone_any _ _ l hR (by omega)).mono ?_
      rintro e w1 ⟨v1, rfl, hB1, hk1⟩
      obtain ⟨x1, n1, p1, rfl⟩ := hB1.form
      go_wp2_with fail
      refine (model_at w1 _ l hB1.rd col p (p : Int) rfl ws fold s hpn hs2 hl2 HV.out (by omega) (by omega) R HS.out).mono ?_
      rintro e w2 ⟨v2, rfl, hB2, hk2⟩
      go_wp2_with fail
      refine (newEmitter_any w2 x1 n1 p1 col (p : Int) ws inn).mono ?_
      rintro e w3 ⟨rfl, hbox, hk3⟩
      have hE := em_new hB1 hk2 hk3 hbox
      go_wp2_with fail
      refine (zzwsq_at hE s fold p hmx.out hpn hs2 HV.out (by omega) (by omega) (by omega) R HS.out).mono ?_
      rintro e w4 ⟨rfl, hE4⟩
      go_wp2_with fail
      refine (fields_any hE4).mono ?_
      rintro e w5 ⟨v5, rfl, kS, own5, k45, far5⟩
      go_wp2_with fail
      have hfin := fin_ok hB1 hk1 hB2 hk2 hk3 kS
      refine (bytesEqual_yes w5 v5 v2 R.1 (Rd.of_own own5) hfin.1 (by have := HRl.out; omega)).mono ?_
      rintro e w6 ⟨rfl, d6⟩
      go_wp2
      go_ret
      exact ⟨rfl, (hfin.2.trans (d6.keep _)).below⟩
    · go_wp2_with fail
      refine (valid_any s _ hs2).mono ?_
      rintro e wv ⟨r, rfl, hVr, rfl⟩
      cases r
      · go_wp2
        go_ret
        exact ⟨rfl, Below.refl _ _⟩
      have HV : Hid (V s.data.toList 0) := hVr rfl
      clear hVr
      obtain ⟨R, HS⟩ : ∃ R, Hid (scalar s.data.toList p fold ws l col = R) := ⟨_, hid rfl⟩
      have HRl : Hid (R.1.length ≤ 100000000000) := by rw [← HS.out]; exact scalar_len _ _ hpn _ _ _ _ HV.out (by simpa using hs2) hl2
      go_wp2_with fail
      refine (clone_any _ _ l hR (by omega)).mono ?_
      rintro e w1 ⟨v1, rfl, hB1, hk1⟩
      obtain ⟨x1, n1, p1, rfl⟩ := hB1.form
      go_wp2_with fail
      refine (model_at w1 _ l hB1.rd col p (p : Int) rfl ws fold s hpn hs2 hl2 HV.out (by omega) (by omega) R HS.out).mono ?_
      rintro e w2 ⟨v2, rfl, hB2, hk2⟩
      go_wp2_with fail
      refine (newEmitter_any w2 x1 n1 p1 col (p : Int) ws inn).mono ?_
      rintro e w3 ⟨rfl, hbox, hk3⟩
      have hE := em_new hB1 hk2 hk3 hbox
      go_wp2_with fail
      refine (zzwsq_at hE s fold p hmx.out hpn hs2 HV.out (by omega) (by omega) (by omega) R HS.out).mono ?_
      rintro e w4 ⟨rfl, hE4⟩
      go_wp2_with fail
      refine (fields_any hE4).mono ?_
      rintro e w5 ⟨v5, rfl, kS, own5, k45, far5⟩
      go_wp2_with fail
      have hfin := fin_ok hB1 hk1 hB2 hk2 hk3 kS
      refine (bytesEqual_yes w5 v5 v2 R.1 (Rd.of_own own5) hfin.1 (by have := HRl.out; omega)).mono ?_
      rintro e w6 ⟨rfl, d6⟩
      go_wp2
      go_ret
      exact ⟨rfl, (hfin.2.trans (d6.keep _)).below⟩
  · have hmx : Hid (max ind 0 = ((0 : Nat) : Int)) := by unfold Hid; omega
    have hpn : 0 ≤ 65536 := by omega
    go_wp2_with fail
    refine (valid_any s _ hs2).mono ?_
    rintro e wv ⟨r, rfl, hVr, rfl⟩
    cases r
    · go_wp2
      go_ret
      exact ⟨rfl, Below.refl _ _⟩
    have HV : Hid (V s.data.toList 0) := hVr rfl
    clear hVr
    obtain ⟨R, HS⟩ : ∃ R, Hid (scalar s.data.toList 0 fold ws l col = R) := ⟨_, hid rfl⟩
    have HRl : Hid (R.1.length ≤ 100000000000) := by rw [← HS.out]; exact scalar_len _ _ hpn _ _ _ _ HV.out (by simpa using hs2) hl2
    go_wp2_with fail
    refine (clone_any _ _ l hR (by omega)).mono ?_
    rintro e w1 ⟨v1, rfl, hB1, hk1⟩
    obtain ⟨x1, n1, p1, rfl⟩ := hB1.form
    go_wp2_with fail
    refine (model_at w1 _ l hB1.rd col 0 (0 : Int) rfl ws fold s hpn hs2 hl2 HV.out (by omega) (by omega) R HS.out).mono ?_
    rintro e w2 ⟨v2, rfl, hB2, hk2⟩
    go_wp2_with fail
    refine (newEmitter_any w2 x1 n1 p1 col ind ws inn).mono ?_
    rintro e w3 ⟨rfl, hbox, hk3⟩
    have hE := em_new hB1 hk2 hk3 hbox
    go_wp2_with fail
    refine (zzwsq_at hE s fold 0 hmx.out hpn hs2 HV.out (by omega) (by omega) (by omega) R HS.out).mono ?_
    rintro e w4 ⟨rfl, hE4⟩
    go_wp2_with fail
    refine (fields_any hE4).mono ?_
    rintro e w5 ⟨v5, rfl, kS, own5, k45, far5⟩
    go_wp2_with fail
    have hfin := fin_ok hB1 hk1 hB2 hk2 hk3 kS
    refine (bytesEqual_yes w5 v5 v2 R.1 (Rd.of_own own5) hfin.1 (by have := HRl.out; omega)).mono ?_
    rintro e w6 ⟨rfl, d6⟩
    go_wp2
    go_ret
    exact ⟨rfl, (hfin.2.trans (d6.keep _)).below⟩
end Go.Proofs.Qxb6630530a
