/-
  Memory of the call's own: a buffer of bytes ('Bf'), what is kept ('Keep'), the appends onto a buffer.
-/
import Derived.Test.Qxb6630530aRows
import Derived.WalkKit
import Derived.WalkSpells
import Derived.Deep.AppendSrc
import Derived.Deep.OwnRows
import Derived.Deep.QuietTactic
import Derived.BigQuiet
namespace Go.Proofs.Qxb6630530a
open Go.RowKit

theorem info5 : (Try.prog.info? 5).map (fun i => (i.zero, i.size, i.bytes)) = some (some (.int .u8 0), 1, 1) := by kernel_rfl

/-- Bytes as cells. -/
def bv (l : List UInt8) : List Value := l.map fun c => Value.int .u8 (c.toNat : Int)
theorem bv_length (l : List UInt8) : (bv l).length = l.length := by simp [bv]
theorem bv_append (a b : List UInt8) : bv (a ++ b) = bv a ++ bv b := by simp [bv]
theorem bv_one (l : List UInt8) : ∀ u ∈ bv l, u.oneCell' = true := fun u hu => by
  obtain ⟨_, _, rfl⟩ := List.mem_map.1 hu
  rfl

/-- The blocks of A are as they were. -/
structure Keep (A : Nat → Prop) (w w' : World) : Prop where
  os : w'.os = w.os
  tape : w'.tape = w.tape
  output : w'.output = w.output
  size : w.heap.size ≤ w'.heap.size
  block : ∀ k, A k → w'.heap[k]? = w.heap[k]?

theorem Keep.refl (A : Nat → Prop) (w : World) : Keep A w w := ⟨rfl, rfl, rfl, Nat.le_refl _, fun _ _ => rfl⟩
theorem Keep.trans {A : Nat → Prop} {a b c : World} (h : Keep A a b) (k : Keep A b c) : Keep A a c :=
  ⟨k.os.trans h.os, k.tape.trans h.tape, k.output.trans h.output, Nat.le_trans h.size k.size, fun i hi => (k.block i hi).trans (h.block i hi)⟩
theorem Keep.mono {A A' : Nat → Prop} {w w' : World} (h : Keep A w w') (hA : ∀ k, A' k → A k) : Keep A' w w' := ⟨h.os, h.tape, h.output, h.size, fun k hk => h.block k (hA k hk)⟩
theorem Keep.below {w w' : World} (h : Keep (fun k => k < w.heap.size) w w') : Below w.heap.size w w' := ⟨h.os, h.tape, h.output, h.size, h.block⟩
theorem Keep.drewN {A : Nat → Prop} {a w : World} (h : Keep A a w) (n : Nat) : Keep A a (w.drewN n) := h.trans ⟨rfl, rfl, rfl, Nat.le_refl _, fun _ _ => rfl⟩
theorem Keep.drew {A : Nat → Prop} {a w : World} (h : Keep A a w) : Keep A a w.drew := h.trans ⟨rfl, rfl, rfl, Nat.le_refl _, fun _ _ => rfl⟩
theorem Keep.alloc {A : Nat → Prop} {a w : World} (h : Keep A a w) (hA : ∀ k, A k → k < w.heap.size) (o : Obj) : Keep A a (w.alloc o) :=
  h.trans ⟨rfl, rfl, rfl, by simp, fun k hk => Below.heap_alloc _ _ _ (hA k hk)⟩
theorem Keep.setCell {A : Nat → Prop} {a w : World} (h : Keep A a w) {p : Addr} (hp : ¬ A p.block) (u : Value) : Keep A a (w.setCell p u) :=
  h.trans ⟨rfl, rfl, rfl, by simp [World.setCell], fun k hk => Below.heap_setCell _ _ _ _ (fun e => hp (e ▸ hk))⟩

/-- v is a slice of the bytes l, in a row of the call's own that is none of A's blocks. -/
structure Bf (A : Nat → Prop) (w : World) (v : Value) (l : List UInt8) : Prop where
  own : w.ownsRow 0 5 1 v l.length (bv l)
  lt : ∀ k, A k → k < w.heap.size
  far : ∀ k, A k → v.ownBlock ≠ some k

theorem Bf.mono {A A' : Nat → Prop} {w : World} {v : Value} {l : List UInt8} (h : Bf A w v l) (hA : ∀ k, A' k → A k) : Bf A' w v l := ⟨h.own, fun k hk => h.lt k (hA k hk), fun k hk => h.far k (hA k hk)⟩

/-- What its value looks like. -/
theorem Bf.slice {A : Nat → Prop} {w : World} {v : Value} {l : List UInt8} (h : Bf A w v l) : ∃ ad cap, v = .slice ad l.length cap := by
  rcases h.own.2 with ⟨rfl, h0⟩ | ⟨g, cap, cur, rfl, _⟩
  · exact ⟨none, 0, by rw [h0]⟩
  · exact ⟨_, cap, rfl⟩

theorem Bf.form {A : Nat → Prop} {w : World} {v : Value} {l : List UInt8} (h : Bf A w v l) : ∃ ad n cap, v = .slice ad n cap := by
  obtain ⟨ad, cap, e⟩ := h.slice
  exact ⟨ad, _, cap, e⟩

/-- What a world that keeps the buffer's row leaves of it. -/
theorem own_of_block {w w' : World} {v : Value} {l : List UInt8} (h : w.ownsRow 0 5 1 v l.length (bv l)) (hb : ∀ k, v.ownBlock = some k → w'.heap[k]? = w.heap[k]?) : w'.ownsRow 0 5 1 v l.length (bv l) := by
  refine ⟨h.1, ?_⟩
  rcases h.2 with hn | ⟨g, cap, cur, rfl, hb0, hgg, rest⟩
  · exact .inl hn
  · exact .inr ⟨g, cap, cur, rfl, hb0, (hb g rfl).trans hgg, rest⟩

theorem Bf.drewN {A : Nat → Prop} {w : World} {v : Value} {l : List UInt8} (h : Bf A w v l) (n : Nat) : Bf A (w.drewN n) v l := ⟨own_of_block h.own fun _ _ => rfl, h.lt, h.far⟩

theorem Bf.drew {A : Nat → Prop} {w : World} {v : Value} {l : List UInt8} (h : Bf A w v l) : Bf A w.drew v l := ⟨own_of_block h.own fun _ _ => rfl, h.lt, h.far⟩

theorem Bf.alloc {A : Nat → Prop} {w : World} {v : Value} {l : List UInt8} (h : Bf A w v l) (o : Obj) : Bf A (w.alloc o) v l :=
  ⟨h.own.alloc o, fun k hk => Nat.lt_of_lt_of_le (h.lt k hk) (by simp), h.far⟩

/-- A store into a block of A's leaves the buffer. -/
theorem Bf.setCell {A : Nat → Prop} {w : World} {v : Value} {l : List UInt8} (h : Bf A w v l) {p : Addr} (hp : A p.block) (u : Value) : Bf A (w.setCell p u) v l :=
  ⟨own_of_block h.own fun k hk => Below.heap_setCell _ _ _ _ (fun e => h.far p.block hp (by rw [← e]; exact hk)), fun k hk => by have := h.lt k hk; simpa [World.setCell] using this, h.far⟩

/-- Cells stored one behind the other into a row that is known. -/
theorem setCells_row (g : Nat) (t : TypeId) (fr : Nat × Nat) : ∀ (vs : List Value) (o : Nat) (w : World) (cur : Array Value), w.heap[g]? = some (.cells cur t fr) → o + vs.length ≤ cur.size →
    (∃ cur', (w.setCells g o vs).heap[g]? = some (.cells cur' t fr) ∧ cur'.size = cur.size ∧ cur'.toList.take (o + vs.length) = cur.toList.take o ++ vs) ∧
      (w.setCells g o vs).os = w.os ∧ (w.setCells g o vs).tape = w.tape ∧ (w.setCells g o vs).output = w.output ∧ (w.setCells g o vs).heap.size = w.heap.size ∧ ∀ k, k ≠ g → (w.setCells g o vs).heap[k]? = w.heap[k]?
  | [], o, w, cur, hg, _ => ⟨⟨cur, hg, rfl, by simp⟩, rfl, rfl, rfl, rfl, fun _ _ => rfl⟩
  | v :: vs, o, w, cur, hg, hle => by
    have hle' : o + 1 + vs.length ≤ cur.size := by simp at hle; omega
    have hg' : (w.setCell ⟨g, o, none⟩ v).heap[g]? = some (.cells (cur.setIfInBounds o v) t fr) := by
      simp [World.setCell, Array.getElem?_modify, hg]
    obtain ⟨⟨cur', h1, h2, h3⟩, h4, h5, h6, h7, h8⟩ := setCells_row g t fr vs (o + 1) (w.setCell ⟨g, o, none⟩ v) (cur.setIfInBounds o v) hg' (by simpa using hle')
    refine ⟨⟨cur', h1, by simpa using h2, ?_⟩, h4, h5, h6, by rw [World.setCells, h7]; simp [World.setCell], fun k hk => ?_⟩
    · rw [show o + (v :: vs).length = o + 1 + vs.length by simp; omega, h3]
      have e : (cur.setIfInBounds o v).toList.take (o + 1) = cur.toList.take o ++ [v] := by
        have hlt : o < cur.toList.length := by simp; omega
        rw [Array.toList_setIfInBounds, List.take_succ_eq_append_getElem (by simpa using hlt), List.getElem_set_self, List.take_set_of_le (Nat.le_refl _)]
      rw [e, List.append_assoc]
      rfl
    · rw [World.setCells, h8 k hk]
      exact Below.heap_setCell _ _ _ _ hk

/-- AN APPEND ONTO A BUFFER, whatever the source. -/
theorem app_run {A : Nat → Prop} {w : World} {v : Value} {l : List UInt8} (hB : Bf A w v l) {tx : TypeId} {x : Value} {n : Nat} {m : List UInt8} (hs : Src Try.prog 1 tx x n (bv m) w)
    (hm : l.length + m.length ≤ 70368744177664) (hne : v = .slice none 0 0 → m ≠ []) (ty : TypeId) :
    ∃ v' w', (Builtin.append_ #[22, tx] ty #[v, x]).run Try.prog w = .ok v' w' ∧ Bf A w' v' (l ++ m) ∧ Keep A w w' := by
  obtain ⟨i, hi, hzz⟩ := Option.map_eq_some_iff.1 info5
  simp only [Prod.mk.injEq] at hzz
  obtain ⟨hz, hsz, hby⟩ := hzz
  have hn : n = m.length := by have := hs.newsLen; rw [bv_length] at this; omega
  subst hn
  have hs' : Src Try.prog i.size tx x m.length (bv m) w := by rw [hsz]; exact hs
  have hxl := hB.own.1
  -- the arm that makes a new row
  have grown : ∀ (ad : Option Addr) (sCap : Nat), (Builtin.firstCells i.size l.length (.slice ad l.length sCap)).run Try.prog w.drew = .ok (bv l).toArray w.drew → sCap < l.length + m.length →
      ∃ v' w', (Builtin.append_ #[22, tx] ty #[.slice ad l.length sCap, x]).run Try.prog w = .ok v' w' ∧ Bf A w' v' (l ++ m) ∧ Keep A w w' := by
    intro ad sCap hold hg
    have hr := run_append_grow_src (P := Try.prog) w 22 tx ty 5 i (.int .u8 0) Try.underlying22 hi hz ad l.length sCap (bv l) hold x m.length (bv m) hs' hg (by omega) (by rw [hby]; exact growslice_fits hg (by omega))
    refine ⟨_, _, hr, ⟨⟨by rw [bv_length]; simp, .inr ⟨w.heap.size, _, _, by rw [List.length_append], Nat.zero_le _, heap_alloc_new w.drew _, ?_, ?_, ?_, ?_⟩⟩, ?_, ?_⟩, ?_⟩
    · rw [List.length_append]; exact grownCap_ge _ _ _ _
    · exact grownCap_le_maxLen _ _ _ _ (by unfold maxLen; omega)
    · have := grownCap_ge w (l.length + m.length) sCap 5
      simp [size_zeroCells, bv_length, Value.cells]
      omega
    · rw [bv_append]
      simp only [Array.toList_append, List.length_append, Nat.mul_one]
      rw [show l.length + m.length = (bv l ++ bv m).length by simp [bv_length]]
      exact List.take_left
    · intro k hk
      have := hB.lt k hk
      simp
      omega
    · intro k hk
      have := hB.lt k hk
      simp [Value.ownBlock]
      omega
    · exact ⟨rfl, rfl, rfl, by simp, fun k hk => Below.heap_alloc w.drew _ k (hB.lt k hk)⟩
  rcases hB.own.2 with ⟨rfl, h0⟩ | ⟨g, cap, cur, rfl, hbg, hgg, hnc, hcm, hcs, htake⟩
  · have hl : l = [] := List.eq_nil_of_length_eq_zero h0
    subst hl
    have hpos : 0 < m.length := List.length_pos_iff.2 (hne rfl)
    exact grown none 0 (by simpa [bv] using run_firstCells_none (P := Try.prog) w.drew i.size 0 0 0) (by simpa using hpos)
  · by_cases hroom : l.length + m.length ≤ cap
    · have hr := run_append_room_src (P := Try.prog) w 22 tx ty 5 i Try.underlying22 hi g 0 l.length cap x m.length (bv m) hs' hroom
        (fun j hj => by
          rw [bv_length] at hj
          rw [cell_of_row w g _ cur 5 (0, 0) hgg]
          have : l.length * i.size + j < cur.size := by rw [hsz, hcs]; omega
          simpa using this)
        (fun j hj => by simp [World.frozen?, hgg])
      have hfit : 0 + l.length * i.size + (bv m).length ≤ cur.size := by rw [hsz, hcs, bv_length]; omega
      obtain ⟨⟨cur', h1, h2, h3⟩, h4, h5, h6, h7, h8⟩ := setCells_row g 5 (0, 0) (bv m) (0 + l.length * i.size) w cur hgg hfit
      refine ⟨_, _, hr, ⟨⟨by rw [bv_length]; simp, .inr ⟨g, cap, cur', by rw [List.length_append], Nat.zero_le _, h1, by rw [List.length_append]; exact hroom, hcm, by rw [h2, hcs], ?_⟩⟩, ?_, ?_⟩, ?_⟩
      · rw [hsz, bv_length] at h3
        simp only [Nat.zero_add, Nat.mul_one] at h3 htake
        rw [Nat.mul_one, List.length_append, h3, htake, bv_append]
      · intro k hk; rw [h7]; exact hB.lt k hk
      · exact fun k hk => hB.far k hk
      · exact ⟨h4, h5, h6, Nat.le_of_eq h7.symm, fun k hk => h8 k fun e => hB.far k hk (by rw [e]; rfl)⟩
    · exact grown _ cap (run_firstCells_some w.drew i.size l.length ⟨g, 0, none⟩ l.length cap (bv l) (by rw [hsz]; exact hxl) (hB.own.cells (g := g) rfl)) (by omega)

section
variable {A : Nat → Prop} {w : World} {v : Value} {l : List UInt8} {ops : Array Oper} {rest : List Oper} {o : Oper} {a : Act} {K : Act → World → Prop} {Q : Exit → Act → World → Prop}

theorem wp_app (hB : Bf A w v l) {tx : TypeId} {xv : Value} {n : Nat} {m : List UInt8} (hs : Src Try.prog 1 tx xv n (bv m) w) (hm : l.length + m.length ≤ 70368744177664) (hne : v = .slice none 0 0 → m ≠ [])
    (s x : Operand) (ho : o.op = .call { callee := .builtin .append, args := #[s, x], argTypes := #[22, tx] }) (hv : a.eval s = v) (hx : a.eval x = xv)
    (h : ∀ v' w', Bf A w' v' (l ++ m) → Keep A w w' → K (a.put o.dst v') w') : o.wp Try.prog a w K Q := by
  obtain ⟨v', w', hr, h2, h3⟩ := app_run hB hs hm hne o.type
  unfold Oper.wp execOp
  simp only [ho, resolve, invoke, builtin, Sem.run_bind, Sem.run_pure, Result.andThen_ok, List.map_toArray, List.map_cons, List.map_nil, hv, hx, hr]
  exact h v' w' h2 h3

theorem wpList_app (hB : Bf A w v l) {tx : TypeId} {xv : Value} {n : Nat} {m : List UInt8} (hs : Src Try.prog 1 tx xv n (bv m) w) (hm : l.length + m.length ≤ 70368744177664) (hne : v = .slice none 0 0 → m ≠ [])
    (hgd : o.guard = none) (s x : Operand) (ho : o.op = .call { callee := .builtin .append, args := #[s, x], argTypes := #[22, tx] }) (hv : a.eval s = v) (hx : a.eval x = xv)
    (h : ∀ v' w', Bf A w' v' (l ++ m) → Keep A w w' → wpList Try.prog ops Q rest (a.put o.dst v') w') : wpList Try.prog ops Q (o :: rest) a w :=
  wpList_plain hgd fun _ hK => wp_app hB hs hm hne s x ho hv hx fun v' w' h2 h3 => hK _ _ (h v' w' h2 h3)

/-- At a step of a region that draws its order. -/
theorem step_app {X : Prop} (hB : Bf A w v l) {tx : TypeId} {xv : Value} {n : Nat} {m : List UInt8} (hs : Src Try.prog 1 tx xv n (bv m) w) (hm : l.length + m.length ≤ 70368744177664) (hne : v = .slice none 0 0 → m ≠ [])
    (hgd : o.guard = none) (s x : Operand) (ho : o.op = .call { callee := .builtin .append, args := #[s, x], argTypes := #[22, tx] }) (hv : a.eval s = v) (hx : a.eval x = xv)
    (h : ∀ v' w', Bf A w' v' (l ++ m) → Keep A w w' → K (a.put o.dst v') w') : if Region.wanted o (yielded ops a.tmps) = true then Oper.wp Try.prog o a w K Q else X := by
  have hw : Region.wanted o (yielded ops a.tmps) = true := by simp [Region.wanted, hgd]
  rw [if_pos hw]
  exact wp_app hB hs hm hne s x ho hv hx h

theorem Src_str (w : World) (s : ByteArray) (m : List UInt8) (hm : s.data.toList = m) : Src Try.prog 1 9 (.string s) s.size (bv m) w := by
  subst hm; exact Src.ofString w Try.underlying9 s

theorem Src_one (w : World) (g : Nat) (z : Int) (c : UInt8) (hz : z = (c.toNat : Int)) (h : w.cell? ⟨g, 0, none⟩ = some (.int .u8 z)) : Src Try.prog 1 22 (.slice (some ⟨g, 0, none⟩) 1 1) 1 (bv [c]) w := by
  refine Src.ofSlice w Try.underlying22 ⟨g, 0, none⟩ 1 1 (bv [c]) rfl (fun j u hj => ?_) (bv_one _)
  match j, hj with
  | 0, hj =>
    have e : (⟨g, 0, none⟩ : Addr).add 0 = ⟨g, 0, none⟩ := by unfold Addr.add; split <;> simp_all
    rw [e, h]
    subst hz
    simpa [bv] using hj

/-- 'b = append(b, c)': one byte: its block has just been laid. -/
theorem wpList_put (hB : Bf A w v l) (c : UInt8) (z : Int) (hz : z = (c.toNat : Int)) (hl : l.length ≤ 35184372088832)
    (hgd : o.guard = none) (s x : Operand) (ho : o.op = .call { callee := .builtin .append, args := #[s, x], argTypes := #[22, 22] }) (hv : a.eval s = v) (hx : a.eval x = .slice (some ⟨w.heap.size, 0, none⟩) 1 1)
    (h : ∀ v' w', Bf A w' v' (l ++ [c]) → Keep A w w' → wpList Try.prog ops Q rest (a.put o.dst v') w') : wpList Try.prog ops Q (o :: rest) a (w.alloc (.cells #[.int .u8 z] 5)) :=
  wpList_app (hB.alloc _) (Src_one _ _ z c hz (by simp)) (by simp; omega) (by simp) hgd s x ho hv hx fun v' w' h2 h3 => h v' w' h2 (((Keep.refl A w).alloc hB.lt _).trans h3)
end

/-- The emitter's block: its five fields. -/
def Box (w : World) (E : Nat) (v : Value) (col ind : Int) (ws inn : Bool) : Prop := w.heap[E]? = some (.cells #[v, .int .i64 col, .int .i64 ind, .bool ws, .bool inn] 40 (0, 0))

section
variable {w : World} {E : Nat} {v : Value} {col ind : Int} {ws inn : Bool}
theorem Box.c0 (h : Box w E v col ind ws inn) : w.cell? ⟨E, 0, none⟩ = some v := by simp [World.cell?, show w.heap[E]? = _ from h]
theorem Box.c1 (h : Box w E v col ind ws inn) : w.cell? ⟨E, 1, none⟩ = some (.int .i64 col) := by simp [World.cell?, show w.heap[E]? = _ from h]
theorem Box.c2 (h : Box w E v col ind ws inn) : w.cell? ⟨E, 2, none⟩ = some (.int .i64 ind) := by simp [World.cell?, show w.heap[E]? = _ from h]
theorem Box.c3 (h : Box w E v col ind ws inn) : w.cell? ⟨E, 3, none⟩ = some (.bool ws) := by simp [World.cell?, show w.heap[E]? = _ from h]
theorem Box.c4 (h : Box w E v col ind ws inn) : w.cell? ⟨E, 4, none⟩ = some (.bool inn) := by simp [World.cell?, show w.heap[E]? = _ from h]
theorem Box.fz (h : Box w E v col ind ws inn) (i : Nat) : w.frozen? ⟨E, i, none⟩ = false := by simp [World.frozen?, show w.heap[E]? = _ from h]
theorem Box.s0 (h : Box w E v col ind ws inn) (x : Value) : Box (w.setCell ⟨E, 0, none⟩ x) E x col ind ws inn := by simp [Box, World.setCell, Array.getElem?_modify, show w.heap[E]? = _ from h]
theorem Box.s1 (h : Box w E v col ind ws inn) (x : Int) : Box (w.setCell ⟨E, 1, none⟩ (.int .i64 x)) E v x ind ws inn := by simp [Box, World.setCell, Array.getElem?_modify, show w.heap[E]? = _ from h]
theorem Box.s3 (h : Box w E v col ind ws inn) (x : Bool) : Box (w.setCell ⟨E, 3, none⟩ (.bool x)) E v col ind x inn := by simp [Box, World.setCell, Array.getElem?_modify, show w.heap[E]? = _ from h]
theorem Box.s4 (h : Box w E v col ind ws inn) (x : Bool) : Box (w.setCell ⟨E, 4, none⟩ (.bool x)) E v col ind ws x := by simp [Box, World.setCell, Array.getElem?_modify, show w.heap[E]? = _ from h]
theorem Box.keep {w' : World} {A : Nat → Prop} (h : Box w E v col ind ws inn) (k : Keep A w w') (hA : A E) : Box w' E v col ind ws inn := (k.block E hA).trans h
end

/-- The emitter at block E: the bytes written so far and its four other fields; the blocks of S are as they were in W. -/
def Em (S : Nat → Prop) (W w : World) (E : Nat) (l : List UInt8) (col ind : Int) (ws inn : Bool) : Prop :=
  ∃ v, Keep S W w ∧ ¬ S E ∧ Box w E v col ind ws inn ∧ Bf (fun k => S k ∨ k = E) w v l

end Go.Proofs.Qxb6630530a
