/-
  The walk of 'FnFormatBlocksJoinAtAnyCut'.
-/
import Derived.Test.Qxb6630671aDoorSmall
import Derived.Deep.AppendSrc
namespace Go.Proofs.Qxb6630671aDoor
open Go.RowKit
set_option linter.unusedVariables false
set_option linter.unusedSimpArgs false

/-- A row of room for cap blocks at block G that holds the blocks bs so far. -/
def Ab (w : World) (G cap : Nat) (bs : List Bk) : Prop := w.there G 0 (cap * 33) ∧ w.rangeAt G 0 (flat bs) ∧ bs.length ≤ cap ∧ ∀ b ∈ bs, b.Ok

theorem make_room (n : Nat) (N : Int) (hN : N = n) (h : n ≤ 1048576) (w : World) : ∃ w', (Instr.makeSlice 25 (.int .i64 0) (.int .i64 N)).run Tryd.prog w = .ok (.slice (some ⟨w.heap.size, 0, none⟩) 0 n) w' ∧ Below w.heap.size w w' ∧ Ab w' w.heap.size n [] := by
  subst hN
  obtain ⟨i, z, hi, hz, hs, hb⟩ := zero36
  have hr := run_make (P := Tryd.prog) w 25 36 i _ Tryd.underlying25 hi hz .i64 .i64 0 n (by omega) (by omega) (by rw [hb]; omega) (by omega)
  rw [Int.toNat_natCast, hs] at hr
  refine ⟨_, hr, (Below.refl _ _).alloc (Nat.le_refl _) _, fun j hj => ?_, rangeAt_nil _ _ _, Nat.zero_le _, fun b hb => by cases hb⟩
  have hb := Go.heap_alloc_new w (.cells (madeCells z.cells (n * 33)) 36)
  constructor
  · rw [cell_of_row _ w.heap.size (0 + j) _ 36 (0, 0) hb]
    have : j < (madeCells z.cells (n * 33)).size := by rw [size_madeCells]; omega
    simp [this]
  · unfold World.frozen?
    simp only [hb]
    simp

theorem Src_bs {w : World} {v : Value} {bs : List Bk} (h : Bs w v bs) : Src Tryd.prog 33 25 v bs.length (flat bs) w := by
  rcases h.2 with ⟨rfl, a, cap, rfl⟩ | ⟨hp, g, off, cap, rfl, hc, hr⟩
  · cases a with
    | none => exact Src.ofNil w Tryd.underlying25 cap
    | some x => exact Src.ofSlice w Tryd.underlying25 x 0 cap [] rfl (fun j u hj => by simp at hj) (fun u hu => by cases hu)
  · exact Src.ofSlice w Tryd.underlying25 ⟨g, off, none⟩ bs.length cap (flat bs) (flat_length bs h.1) (fun j u hj => by rw [Addr.add_mid]; exact hr j u hj) (flat_one bs)

theorem wpList_appb {w : World} {G cap : Nat} {ds bs : List Bk} {v : Value} {ops : Array Oper} {rest : List Oper} {o : Oper} {a : Act} {Q : Exit → Act → World → Prop} (hA : Ab w G cap ds) (hB : Bs w v bs) (hroom : ds.length + bs.length ≤ cap)
    (hgd : o.guard = none) (s x : Operand) (ho : o.op = .call { callee := .builtin .append, args := #[s, x], argTypes := #[25, 25] }) (hv : a.eval s = .slice (some ⟨G, 0, none⟩) ds.length cap) (hx : a.eval x = v)
    (h : ∀ w', Ab w' G cap (ds ++ bs) → Below G w w' → wpList Tryd.prog ops Q rest (a.put o.dst (.slice (some ⟨G, 0, none⟩) (ds.length + bs.length) cap)) w') : wpList Tryd.prog ops Q (o :: rest) a w := by
  obtain ⟨i, z, hi, hz, hs, hb⟩ := zero36
  have hfl := flat_length bs hB.1
  have hfd := flat_length ds hA.2.2.2
  have hsrc : Src Tryd.prog i.size 25 v bs.length (flat bs) w := by rw [hs]; exact Src_bs hB
  have ht : w.there G (ds.length * 33) (bs.length * 33) := fun j hj => by
    have := hA.1 (ds.length * 33 + j) (by have : (ds.length + bs.length) * 33 ≤ cap * 33 := Nat.mul_le_mul_right _ hroom; omega)
    simpa using this
  have hr := run_append_room_src (P := Tryd.prog) w 25 25 o.type 36 i Tryd.underlying25 hi G 0 ds.length cap v bs.length (flat bs) hsrc hroom
    (fun j hj => by rw [hs, Nat.zero_add]; exact (ht j (by omega)).1) (fun j hj => by rw [hs, Nat.zero_add]; exact (ht j (by omega)).2)
  rw [hs, Nat.zero_add] at hr
  refine wpList_plain hgd fun K hK => ?_
  unfold Oper.wp execOp
  simp only [ho, resolve, invoke, builtin, Sem.run_bind, Sem.run_pure, Result.andThen_ok, List.map_toArray, List.map_cons, List.map_nil, hv, hx, hr]
  refine hK _ _ (h _ ⟨World.there_setCells hA.1 _ _ _, ?_, by simpa using hroom, fun b hb => ?_⟩ (below_setCells (Nat.le_refl _) _ _ _ (Below.refl _ _)))
  · rw [flat_append, rangeAt_append, hfd, Nat.zero_add]
    exact ⟨World.rangeAt_setCells_apart hA.2.1 _ _ _ (Or.inr (Or.inl (by omega))), World.rangeAt_setCells_same _ _ _ _ (by rw [hfl]; exact ht)⟩
  · rcases List.mem_append.1 hb with h | h
    · exact hA.2.2.2 b h
    · exact hB.1 b h

theorem Ab.bs {w : World} {G cap : Nat} {bs : List Bk} (h : Ab w G cap bs) : Bs w (.slice (some ⟨G, 0, none⟩) bs.length cap) bs := by
  refine ⟨h.2.2.2, ?_⟩
  rcases Nat.eq_zero_or_pos bs.length with h0 | h0
  · obtain rfl := List.length_eq_zero_iff.1 h0
    exact .inl ⟨rfl, _, _, rfl⟩
  · exact .inr ⟨h0, G, 0, cap, rfl, h.2.2.1, h.2.1⟩

theorem tab_on {w w1 : World} (h : Lib.TabBelow Tryd.prog w.heap.size w "internal/strconv.uint64pow10" .u64 Lib.pow10Tab) (hb : Below w.heap.size w w1) : Lib.TabBelow Tryd.prog w1.heap.size w1 "internal/strconv.uint64pow10" .u64 Lib.pow10Tab :=
  fun w' hw' => h w' (hb.trans (hw'.mono hb.size))

theorem toList_inj {a b : ByteArray} (h : a.data.toList = b.data.toList) : a = b := Go.WideShapes.bytes_inj h

theorem tx_step_len (bs : List Bk) (k : Nat) (hk : k < bs.length) (hok : ∀ b ∈ bs, b.Ok) : (tx (bs.take (k + 1))).length = (tx (bs.take k)).length + (2 + ((Lib.itoa bs[k].1).length + 72)) := by
  rw [take_step bs k hk, tx_append, List.length_append]
  have := entry_length bs[k] (hok _ (List.getElem_mem hk))
  simp [tx, this]
  omega

/-- The entries' lengths, summed. -/
def tot (bs : List Bk) : Nat := (bs.map fun b => (Lib.itoa b.1).length + 72).sum
theorem tot_append (a b : List Bk) : tot (a ++ b) = tot a + tot b := by simp [tot]
theorem tot_step (bs : List Bk) (k : Nat) (hk : k < bs.length) : tot (bs.take (k + 1)) = tot (bs.take k) + ((Lib.itoa bs[k].1).length + 72) := by
  rw [take_step bs k hk, tot_append]; simp [tot]
theorem tx_tot (bs : List Bk) (h : ∀ b ∈ bs, b.Ok) : (tx bs).length = tot bs + 2 * bs.length := by
  induction bs with
  | nil => rfl
  | cons b r ih =>
    have h1 := ih fun x hx => h x (by simp [hx])
    have h2 := entry_length b (h b (by simp))
    simp only [tx, tot, List.flatMap_cons, List.length_append, List.length_cons, List.length_nil, List.map_cons, List.sum_cons] at h1 ⊢
    omega
theorem tot_le (bs : List Bk) (h : ∀ b ∈ bs, b.Ok) : tot bs ≤ 93 * bs.length := by
  have h1 := tx_tot bs h
  have h2 := tx_le bs h
  omega
theorem txt_tot (bs : List Bk) (h : ∀ b ∈ bs, b.Ok) (hp : 0 < bs.length) : (txt bs).length = tot bs + 2 * (bs.length - 1) := by
  have h1 := tx_tot bs h
  unfold txt
  rw [List.length_drop]
  omega

theorem fin_eq (sab : ByteArray) (xs bs : List Bk) (h : sab.data.toList = txt (xs ++ bs)) (hA : ∀ b ∈ xs, b.Ok) (hB : ∀ b ∈ bs, b.Ok) :
    (xs.length + bs.length = 0 ∧ sab.size = 0 ∧ tot xs + tot bs = 0) ∨ (0 < xs.length + bs.length ∧ sab.size = tot xs + tot bs + 2 * (xs.length + bs.length - 1)) := by
  have hs : sab.size = (txt (xs ++ bs)).length := by rw [← h]; rfl
  rcases Nat.eq_zero_or_pos (xs.length + bs.length) with h0 | h0
  · obtain rfl : xs = [] := List.eq_nil_of_length_eq_zero (by omega)
    obtain rfl : bs = [] := List.eq_nil_of_length_eq_zero (by omega)
    exact .inl ⟨rfl, hs, rfl⟩
  · right
    refine ⟨h0, ?_⟩
    rw [hs, txt_tot (xs ++ bs) (fun b hb => (List.mem_append.1 hb).elim (hA b) (hB b)) (by simpa using h0), tot_append, List.length_append]

theorem join_eq (sa sb sab : ByteArray) (xs bs : List Bk) (ha : sa.data.toList = txt xs) (hb : sb.data.toList = txt bs) (hab : sab.data.toList = txt (xs ++ bs)) (hx : 0 < xs.length) (hy : 0 < bs.length) : sab = sa ++ ⟨#[44, 32]⟩ ++ sb := by
  refine toList_inj ?_
  rw [hab]
  have e : (sa ++ ⟨#[44, 32]⟩ ++ sb).data.toList = sa.data.toList ++ [44, 32] ++ sb.data.toList := by simp
  rw [e, ha, hb]
  unfold txt
  rw [tx_append, List.drop_append_of_le_length (tx_two xs hx)]
  obtain ⟨b, r, rfl⟩ := List.exists_cons_of_length_pos hy
  simp [tx]

set_option maxRecDepth 10000 in
set_option maxHeartbeats 4000000 in
theorem walkJ (a b : Option Addr) (c1 c2 : Nat) (xs bs : List Bk) (w : World) (hA : Bs w (.slice a xs.length c1) xs) (hB : Bs w (.slice b bs.length c2) bs) (hl1 : xs.length ≤ 9223372036854775807) (hl2 : bs.length ≤ 9223372036854775807)
    (htab : Lib.TabBelow Tryd.prog w.heap.size w "internal/strconv.uint64pow10" .u64 Lib.pow10Tab) :
    Calls Tryd.prog 4 #[.slice a xs.length c1, .slice b bs.length c2] w fun e w' => e = .returned (.bool true) ∧ Below w.heap.size w w' := by
  have HA := hid hA
  have HB := hid hB
  have HT := hid htab
  clear hA hB htab
  go_enter Tryd.func4, Tryd.ntmps4
  go_wp2_with fail
  refine (bytes2_any _ _ _ _ _ _ _ hl1 hl2).mono ?_
  rintro e w0 ⟨r, rfl, rfl⟩
  cases r
  · go_wp2
    go_ret
    exact ⟨rfl, Below.refl _ _⟩
  by_cases h1 : 8192 < xs.length
  · go_wp2
    go_ret
    exact ⟨rfl, Below.refl _ _⟩
  by_cases h2 : 8192 < bs.length
  · go_wp2
    go_ret
    exact ⟨rfl, Below.refl _ _⟩
  go_wp2_with fail
  refine (toBlocks_any w0 _ xs HA.out (by omega)).mono ?_
  rintro e w1 ⟨v1, rfl, hB1, hb1⟩
  have HB1 := hid hB1
  have Hb1 := hid hb1
  clear hB1 hb1
  go_wp2_with fail
  refine (toBlocks_any w1 _ bs (HB.out.below Hb1.out) (by omega)).mono ?_
  rintro e w2 ⟨v2, rfl, hB2, hb2⟩
  have HB2 := hid hB2
  have Hb2 := hid (Hb1.out.trans (hb2.mono Hb1.out.size))
  have HB12 := hid (HB1.out.below hb2)
  clear hB2 hb2
  obtain ⟨w3, hmk, hb3, hab⟩ := make_room (xs.length + bs.length) ((xs.length : Int) + (bs.length : Int)) (by omega) (by omega) w2
  have Hab := hid hab
  have Hb3 := hid hb3
  clear hb3 hab
  go_wp2_with (at_builtin; refine wpList_appb (ds := []) Hab.out (HB12.out.below Hb3.out) (by simp) rfl (.tmp 36) (.tmp 37) rfl rfl rfl ?_)
  intro w4 hab4 hb4
  have Hab4 := hid hab4
  have HG3 := hid Hb3.out.size
  have Hb4 : Hid (Below w2.heap.size w2 w4) := Hb3.out.trans hb4
  clear hab4 hb4 hmk
  go_wp2_with (at_builtin; refine wpList_appb (ds := xs) Hab4.out (HB2.out.below Hb4.out) (by omega) rfl (.tmp 39) (.tmp 40) rfl rfl rfl ?_)
  intro w5 hab5 hb5
  have Hab5 := hid hab5
  have Hb5 : Hid (Below w2.heap.size w2 w5) := Hb4.out.trans hb5
  have Hb05 : Hid (Below w0.heap.size w0 w5) := Hb2.out.trans (Hb5.out.mono Hb2.out.size)
  clear hab5 hb5 Hab Hab4 Hb3 Hb4
  go_wp2_with fail
  refine (fmt_any w5 v1 xs (HB12.out.below Hb5.out) (by omega) (tab_on HT.out Hb05.out)).mono ?_
  rintro e w6 ⟨sa, rfl, hsa, hb6⟩
  have Hsa := hid hsa
  have Hb6 := hid hb6
  clear hsa hb6
  go_wp2_with fail
  refine (fmt_any w6 v2 bs ((HB2.out.below Hb5.out).below Hb6.out) (by omega) (tab_on (tab_on HT.out Hb05.out) Hb6.out)).mono ?_
  rintro e w7 ⟨sb, rfl, hsb, hb7⟩
  have Hsb := hid hsb
  have Hb7 := hid (Hb6.out.trans (hb7.mono Hb6.out.size))
  clear hsb hb7
  go_wp2_with fail
  refine (fmt_any w7 _ (xs ++ bs) (by have := Hab5.out.bs.below Hb7.out; simpa using this) (by simp; omega) (tab_on (tab_on HT.out Hb05.out) Hb7.out)).mono ?_
  rintro e w8 ⟨sab, rfl, hsab, hb8⟩
  have Hsab := hid hsab
  have Hb8 : Hid (Below w0.heap.size w0 w8) := Hb05.out.trans ((Hb7.out.trans (hb8.mono Hb7.out.size)).mono Hb05.out.size)
  clear hsab hb8 Hab5 HB1 HB2 HB12 Hb1 Hb2 Hb5 Hb05 Hb6 Hb7
  -- THE THREE ARMS
  have HokA := hid HA.out.1
  have HokB := hid HB.out.1
  have HCA : Hid (∀ k (h : k < xs.length), ∃ g off, a = some ⟨g, off, none⟩ ∧ xs.length ≤ c1 ∧ w8.cell? ⟨g, off + k * 33, none⟩ = some (.int .i64 xs[k].1)) := fun k hk => by
    rcases HA.out.2 with ⟨h, _⟩ | ⟨hp, g, off, c, e, hc, hr⟩
    · simp [h] at hk
    · simp only [Value.slice.injEq] at e
      obtain ⟨rfl, _, rfl⟩ := e
      exact ⟨g, off, rfl, hc, (rangeAt_cell (rangeAt_below (flat_part HA.out.1 hr k hk) Hb8.out)).1⟩
  have HCB : Hid (∀ k (h : k < bs.length), ∃ g off, b = some ⟨g, off, none⟩ ∧ bs.length ≤ c2 ∧ w8.cell? ⟨g, off + k * 33, none⟩ = some (.int .i64 bs[k].1)) := fun k hk => by
    rcases HB.out.2 with ⟨h, _⟩ | ⟨hp, g, off, c, e, hc, hr⟩
    · simp [h] at hk
    · simp only [Value.slice.injEq] at e
      obtain ⟨rfl, _, rfl⟩ := e
      exact ⟨g, off, rfl, hc, (rangeAt_cell (rangeAt_below (flat_part HB.out.1 hr k hk) Hb8.out)).1⟩
  have htA := tot_le xs HokA.out
  have htB := tot_le bs HokB.out
  have hlsa : sa.size ≤ 1000000 := by
    have h := txt_le xs HokA.out
    rw [← Hsa.out] at h
    have : sa.size = sa.data.toList.length := rfl
    omega
  have hlsb : sb.size ≤ 1000000 := by
    have h := txt_le bs HokB.out
    rw [← Hsb.out] at h
    have : sb.size = sb.data.toList.length := rfl
    omega
  clear HA HB HT
  by_cases hx : xs.length = 0
  · obtain rfl := List.length_eq_zero_iff.1 hx
    clear hx
    have heq : (sab.toList == sb.toList) = true := by
      rw [show sab = sb from toList_inj (by rw [Hsab.out, Hsb.out]; rfl)]; simp
    go_wp2_with fail
    go_loopg [12, 13, 14] ([] : List Bk).length (fun g sn st si wx => w8 = wx ∧ ∃ k : Nat, k ≤ ([] : List Bk).length ∧ g = ([] : List Bk).length - k ∧ sn = .int .i64 k ∧ st = .int .i64 (tot (([] : List Bk).take k) : Int) ∧ si = .int .i64 k)
    case atStart => exact ⟨rfl, 0, Nat.zero_le _, rfl, rfl, rfl, rfl⟩
    case round =>
      obtain ⟨rfl, k, hk, rfl, rfl, rfl, rfl⟩ := hrel
      by_cases hlt : k < ([] : List Bk).length
      · exact absurd hlt (by simp)
      · obtain rfl : k = ([] : List Bk).length := by omega
        rw [List.take_length]
        go_wp2_with fail
        go_loopg [12, 13, 15] bs.length (fun g sn st si wx => w8 = wx ∧ ∃ k : Nat, k ≤ bs.length ∧ g = bs.length - k ∧ sn = .int .i64 ((([] : List Bk).length + k : Nat) : Int) ∧ st = .int .i64 ((tot ([] : List Bk) + tot (bs.take k) : Nat) : Int) ∧ si = .int .i64 k)
        case atStart => exact ⟨rfl, 0, Nat.zero_le _, rfl, rfl, rfl, rfl⟩
        case round =>
          obtain ⟨rfl, k, hk, rfl, rfl, rfl, rfl⟩ := hrel
          by_cases hlt : k < bs.length
          · obtain ⟨g, off, rfl, hc, hcell⟩ := HCB.out k hlt
            have hok := HokB.out _ (List.getElem_mem hlt)
            have hi := Lib.itoa_length_le bs[k].1 hok.2.1 hok.2.2
            have htk : tot (bs.take k) ≤ 1000000 := by
              have := tot_le (bs.take k) fun b hb => HokB.out b (List.mem_of_mem_take hb)
              rw [List.length_take] at this
              omega
            have Hst := hid (tot_step bs k hlt)
            have hk0 : (0 : Int) ≤ (k : Int) := by omega
            have hk1 : (k : Int) < (bs.length : Int) := by omega
            go_wp2_with fail
            refine (declen_any bs[k].1 hok.2.1 hok.2.2 _).mono ?_
            rintro e wz ⟨rfl, rfl⟩
            go_wp2
            go_roundg (bs.length - (k + 1))
            case measure => omega
            case rel => exact ⟨rfl, k + 1, by omega, rfl, (by first | go_num | simp), congrArg (Value.int .i64) (by rw [Hst.out]; omega), by go_num⟩
          · obtain rfl : k = bs.length := by omega
            rw [List.take_length]
            have hz0 : tot ([] : List Bk) = 0 := rfl
            have hfin : (([] : List Bk).length + bs.length = 0 ∧ sab.size = 0 ∧ tot ([] : List Bk) + tot bs = 0) ∨ (0 < ([] : List Bk).length + bs.length ∧ sab.size = tot ([] : List Bk) + tot bs + 2 * (([] : List Bk).length + bs.length - 1)) :=
              fin_eq sab ([] : List Bk) bs Hsab.out HokA.out HokB.out
            have Hfin := hid hfin
            clear hfin
            go_wp2_with fail
            all_goals go_ret
            all_goals refine ⟨?_, Hb8.out⟩
            all_goals refine congrArg (fun x => Ending.returned (.bool x)) (?_ : (_ : Bool) = true)
            all_goals rw [beq_iff_eq]
            all_goals
              have := Hfin.out
              try simp only [List.length_nil] at *
              omega
  · have hxb : ((xs.length : Int) == 0) = false := by simpa using (show ¬ (xs.length : Int) = 0 by omega)
    by_cases hy : bs.length = 0
    · obtain rfl := List.length_eq_zero_iff.1 hy
      clear hy
      have heq : (sab.toList == sa.toList) = true := by
        rw [show sab = sa from toList_inj (by rw [Hsab.out, Hsa.out, List.append_nil])]; simp
      go_wp2_with fail
      go_loopg [12, 13, 14] xs.length (fun g sn st si wx => w8 = wx ∧ ∃ k : Nat, k ≤ xs.length ∧ g = xs.length - k ∧ sn = .int .i64 k ∧ st = .int .i64 (tot (xs.take k) : Int) ∧ si = .int .i64 k)
      case atStart => exact ⟨rfl, 0, Nat.zero_le _, rfl, rfl, rfl, rfl⟩
      case round =>
        obtain ⟨rfl, k, hk, rfl, rfl, rfl, rfl⟩ := hrel
        by_cases hlt : k < xs.length
        · obtain ⟨g, off, rfl, hc, hcell⟩ := HCA.out k hlt
          have hok := HokA.out _ (List.getElem_mem hlt)
          have hi := Lib.itoa_length_le xs[k].1 hok.2.1 hok.2.2
          have htk : tot (xs.take k) ≤ 1000000 := by
            have := tot_le (xs.take k) fun b hb => HokA.out b (List.mem_of_mem_take hb)
            rw [List.length_take] at this
            omega
          have Hst := hid (tot_step xs k hlt)
          have hk0 : (0 : Int) ≤ (k : Int) := by omega
          have hk1 : (k : Int) < (xs.length : Int) := by omega
          go_wp2_with fail
          refine (declen_any xs[k].1 hok.2.1 hok.2.2 _).mono ?_
          rintro e wz ⟨rfl, rfl⟩
          go_wp2
          go_roundg (xs.length - (k + 1))
          case measure => omega
          case rel => exact ⟨rfl, k + 1, by omega, rfl, (by first | go_num | simp), congrArg (Value.int .i64) (by rw [Hst.out]; omega), by go_num⟩
        · obtain rfl : k = xs.length := by omega
          rw [List.take_length]
          go_wp2_with fail
          go_loopg [12, 13, 15] ([] : List Bk).length (fun g sn st si wx => w8 = wx ∧ ∃ k : Nat, k ≤ ([] : List Bk).length ∧ g = ([] : List Bk).length - k ∧ sn = .int .i64 ((xs.length + k : Nat) : Int) ∧ st = .int .i64 ((tot xs + tot (([] : List Bk).take k) : Nat) : Int) ∧ si = .int .i64 k)
          case atStart => exact ⟨rfl, 0, Nat.zero_le _, rfl, rfl, rfl, rfl⟩
          case round =>
            obtain ⟨rfl, k, hk, rfl, rfl, rfl, rfl⟩ := hrel
            by_cases hlt : k < ([] : List Bk).length
            · exact absurd hlt (by simp)
            · obtain rfl : k = ([] : List Bk).length := by omega
              rw [List.take_length]
              have hz0 : tot ([] : List Bk) = 0 := rfl
              have hfin : (xs.length + ([] : List Bk).length = 0 ∧ sab.size = 0 ∧ tot xs + tot ([] : List Bk) = 0) ∨ (0 < xs.length + ([] : List Bk).length ∧ sab.size = tot xs + tot ([] : List Bk) + 2 * (xs.length + ([] : List Bk).length - 1)) :=
                fin_eq sab xs ([] : List Bk) Hsab.out HokA.out HokB.out
              have Hfin := hid hfin
              clear hfin
              go_wp2_with fail
              all_goals go_ret
              all_goals refine ⟨?_, Hb8.out⟩
              all_goals refine congrArg (fun x => Ending.returned (.bool x)) (?_ : (_ : Bool) = true)
              all_goals rw [beq_iff_eq]
              all_goals
                have := Hfin.out
                try simp only [List.length_nil] at *
                omega
    · have hyb : ((bs.length : Int) == 0) = false := by simpa using (show ¬ (bs.length : Int) = 0 by omega)
      have heq : (sab.toList == (sa ++ ⟨#[44, 32]⟩ ++ sb).toList) = true := by
        rw [show sab = (sa ++ ⟨#[44, 32]⟩ ++ sb) from join_eq sa sb sab xs bs Hsa.out Hsb.out Hsab.out (by omega) (by omega)]; simp
      go_wp2_with fail
      go_loopg [12, 13, 14] xs.length (fun g sn st si wx => w8 = wx ∧ ∃ k : Nat, k ≤ xs.length ∧ g = xs.length - k ∧ sn = .int .i64 k ∧ st = .int .i64 (tot (xs.take k) : Int) ∧ si = .int .i64 k)
      case atStart => exact ⟨rfl, 0, Nat.zero_le _, rfl, rfl, rfl, rfl⟩
      case round =>
        obtain ⟨rfl, k, hk, rfl, rfl, rfl, rfl⟩ := hrel
        by_cases hlt : k < xs.length
        · obtain ⟨g, off, rfl, hc, hcell⟩ := HCA.out k hlt
          have hok := HokA.out _ (List.getElem_mem hlt)
          have hi := Lib.itoa_length_le xs[k].1 hok.2.1 hok.2.2
          have htk : tot (xs.take k) ≤ 1000000 := by
            have := tot_le (xs.take k) fun b hb => HokA.out b (List.mem_of_mem_take hb)
            rw [List.length_take] at this
            omega
          have Hst := hid (tot_step xs k hlt)
          have hk0 : (0 : Int) ≤ (k : Int) := by omega
          have hk1 : (k : Int) < (xs.length : Int) := by omega
          go_wp2_with fail
          refine (declen_any xs[k].1 hok.2.1 hok.2.2 _).mono ?_
          rintro e wz ⟨rfl, rfl⟩
          go_wp2
          go_roundg (xs.length - (k + 1))
          case measure => omega
          case rel => exact ⟨rfl, k + 1, by omega, rfl, (by first | go_num | simp), congrArg (Value.int .i64) (by rw [Hst.out]; omega), by go_num⟩
        · obtain rfl : k = xs.length := by omega
          rw [List.take_length]
          go_wp2_with fail
          go_loopg [12, 13, 15] bs.length (fun g sn st si wx => w8 = wx ∧ ∃ k : Nat, k ≤ bs.length ∧ g = bs.length - k ∧ sn = .int .i64 ((xs.length + k : Nat) : Int) ∧ st = .int .i64 ((tot xs + tot (bs.take k) : Nat) : Int) ∧ si = .int .i64 k)
          case atStart => exact ⟨rfl, 0, Nat.zero_le _, rfl, rfl, rfl, rfl⟩
          case round =>
            obtain ⟨rfl, k, hk, rfl, rfl, rfl, rfl⟩ := hrel
            by_cases hlt : k < bs.length
            · obtain ⟨g, off, rfl, hc, hcell⟩ := HCB.out k hlt
              have hok := HokB.out _ (List.getElem_mem hlt)
              have hi := Lib.itoa_length_le bs[k].1 hok.2.1 hok.2.2
              have htk : tot (bs.take k) ≤ 1000000 := by
                have := tot_le (bs.take k) fun b hb => HokB.out b (List.mem_of_mem_take hb)
                rw [List.length_take] at this
                omega
              have Hst := hid (tot_step bs k hlt)
              have hk0 : (0 : Int) ≤ (k : Int) := by omega
              have hk1 : (k : Int) < (bs.length : Int) := by omega
              go_wp2_with fail
              refine (declen_any bs[k].1 hok.2.1 hok.2.2 _).mono ?_
              rintro e wz ⟨rfl, rfl⟩
              go_wp2
              go_roundg (bs.length - (k + 1))
              case measure => omega
              case rel => exact ⟨rfl, k + 1, by omega, rfl, (by first | go_num | simp), congrArg (Value.int .i64) (by rw [Hst.out]; omega), by go_num⟩
            · obtain rfl : k = bs.length := by omega
              rw [List.take_length]
              have hz0 : tot ([] : List Bk) = 0 := rfl
              have hfin : (xs.length + bs.length = 0 ∧ sab.size = 0 ∧ tot xs + tot bs = 0) ∨ (0 < xs.length + bs.length ∧ sab.size = tot xs + tot bs + 2 * (xs.length + bs.length - 1)) :=
                fin_eq sab xs bs Hsab.out HokA.out HokB.out
              have Hfin := hid hfin
              clear hfin
              go_wp2_with fail
              all_goals go_ret
              all_goals refine ⟨?_, Hb8.out⟩
              all_goals refine congrArg (fun x => Ending.returned (.bool x)) (?_ : (_ : Bool) = true)
              all_goals rw [beq_iff_eq]
              all_goals
                have := Hfin.out
                try simp only [List.length_nil] at *
                omega
end Go.Proofs.Qxb6630671aDoor
