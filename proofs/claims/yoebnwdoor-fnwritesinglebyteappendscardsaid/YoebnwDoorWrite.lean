/-
  OUR OWN WORK. THE WALKS of ZZfmtbufWriteSingleByte (9; the method 18 walked in place) and ZZfmtbufWrite (12; the method 19 walked in place), at a byte slice of the call's own.
-/
import Derived.Test.YoebnwDoorSmall
namespace Go.Proofs.YoebnwDoor
open Go.RowKit

/-- The local variable's box 'p' (one cell, laid behind the row) is as it was behind an append to the row. -/
theorem box_kept {w W w1 : World} {B p : Nat} {v x : Value} {n : Nat} {xs : List Value} (h : w.ownsRow B 5 1 v n xs) (hp : w.heap.size ≤ p) (hW : W.heap[p]? = some (.cells #[x] 35 (0, 0))) (hg : W.grownBy w1 v.ownBlock) :
    w1.heap[p]? = some (.cells #[x] 35 (0, 0)) := by
  rw [hg.block p (lt_of_block hW) (fun e => ?_)]
  · exact hW
  · have := (h.lt p e.symm).2
    omega

/-- An owned row lies in no box. -/
theorem own_not_box {w : World} {B p : Nat} {v x : Value} {n : Nat} {xs : List Value} (h : w.ownsRow B 5 1 v n xs) (hp : w.heap[p]? = some (.cells #[x] 35 (0, 0))) : v.ownBlock ≠ some p := by
  intro e
  rcases h.2 with ⟨rfl, _⟩ | ⟨g, cap, cur, rfl, _, hg, _⟩
  · simp [Value.ownBlock] at e
  · simp only [Value.ownBlock, Option.some.injEq] at e
    subst e
    rw [hp] at hg
    simp at hg

theorem own_slice {w : World} {B : Nat} {v : Value} {n : Nat} {xs : List Value} (h : w.ownsRow B 5 1 v n xs) : ∃ ao cap, v = .slice ao n cap := by
  rcases h.2 with ⟨rfl, rfl⟩ | ⟨g, cap, cur, rfl, _⟩
  · exact ⟨_, _, rfl⟩
  · exact ⟨_, _, rfl⟩

theorem grown_setCell_new {w W : World} {row : Option Nat} (h : w.grownBy W row) {p : Nat} (hp : w.heap.size ≤ p) (u : Value) : w.grownBy (W.setCell ⟨p, 0, none⟩ u) row :=
  ⟨h.os, h.tape, h.output, by simpa [World.setCell] using h.size, fun k hk hne => by
    rw [Below.heap_setCell _ _ _ _ (by show k ≠ p; omega)]
    exact h.block k hk hne⟩

theorem grown_trans_new {w W w1 : World} {row : Option Nat} (h : w.grownBy W row) (hg : W.grownBy w1 row) : w.grownBy w1 row :=
  ⟨hg.os.trans h.os, hg.tape.trans h.tape, hg.output.trans h.output, Nat.le_trans h.size hg.size, fun k hk hne => (hg.block k (by have := h.size; omega) hne).trans (h.block k hk hne)⟩

theorem grown_two (w : World) (o1 o2 : Obj) (q : Nat) (row : Option Nat) : w.grownBy (((w.alloc o1).drewN q).alloc o2) row :=
  grown_trans_new (World.grownBy_alloc w o1 row) (show (w.alloc o1).grownBy _ row from ⟨rfl, rfl, rfl, by simp, fun k hk _ => Below.heap_alloc ((w.alloc o1).drewN q) o2 k hk⟩)

theorem box_two (w : World) (x : Value) (o2 : Obj) (q : Nat) : (((w.alloc (.cells #[x] 35)).drewN q).alloc o2).heap[w.heap.size]? = some (.cells #[x] 35 (0, 0)) := by
  rw [Below.heap_alloc ((w.alloc (.cells #[x] 35)).drewN q) o2 _ (by simp)]
  exact heap_alloc_new w _

set_option maxHeartbeats 400000 in
theorem byte_walk (B : Nat) (ao : Option Addr) (n cap : Nat) (xs : List Value) (c : Int) (w : World) (hown : w.ownsRow B 5 1 (.slice ao n cap) n xs) (hn : n ≤ 1073741824) (hB : B ≤ w.heap.size)
    (M : Int) (hM : 1073741824 < M) (hg : w.cell? ⟨0, 0, none⟩ = some (.int .i64 M)) :
    Calls Ebng.prog 9 #[.slice ao n cap, .int .u8 c] w fun e w' => ∃ v', e = .returned v' ∧ w'.ownsRow B 5 1 v' (n + 1) (xs ++ [.int .u8 c]) ∧ w.grownBy w' (Value.slice ao n cap).ownBlock := by
  obtain ⟨i0, hi, hz0, hz1, hz2⟩ := info_parts Ebng.info5
  have HO : Hid (w.ownsRow B 5 1 (.slice ao n cap) n xs) := hown
  have hgs : 0 < w.heap.size := World.block_lt_of_cell? w _ hg
  clear hown
  go_enter Ebng.func9, Ebng.ntmps9
  go_wp2
  go_quiet (fail)
  go_wp2_with (first
    | (at_builtin; refine wpList_append_own _ rfl _ _ 35 rfl B 5 i0 (.int .u8 0) 1 1 Ebng.underlying35 hi hz0 hz1 hz2 rfl (by decide) _ n xs rfl ((HO.out.alloc _).alloc _) ⟨w.heap.size + 1, 0, none⟩ 1 1 [.int .u8 c] rfl rfl ?c1 ?c2 ?c3 ?c4 ?c5 ?_)
    | fail)
  case c1 =>
    intro j u hj
    match j, hj with
    | 0, hj => simp at hj; subst hj; simp [Addr.add, go_sem]
  case c2 => intro u hu; simp at hu; subst hu; rfl
  case c3 => unfold maxLen; omega
  case c4 => omega
  case c5 => simp; omega
  intro v' w1 hown1 hg1 _
  have hbox := box_kept HO.out (Nat.le_refl _) (box_two w _ _ nq) hg1
  have hc := cell_of_one hbox
  have hf := free_of_one hbox
  have HNB : Hid (v'.ownBlock ≠ some w.heap.size) := own_not_box hown1 hbox
  have HG : Hid (w.grownBy w1 (Value.slice ao n cap).ownBlock) := grown_trans_new (grown_two w _ _ nq _) hg1
  have HO1 : Hid (w1.ownsRow B 5 1 v' (n + 1) (xs ++ [.int .u8 c])) := hown1
  obtain ⟨ao', cap', hv⟩ := own_slice hown1
  clear hg1 hown1 hbox
  subst hv
  go_wp2
  go_end0
  go_wp2
  go_ret
  exact ⟨_, rfl, ownsRow_setCell_other HO1.out HNB.out _, grown_setCell_new HG.out (Nat.le_refl _) _⟩

/-- ZZfmtbufWriteSingleByte, whole. -/
theorem byte_any (B : Nat) (v : Value) (zs : List Int) (c : Int) (w : World) (hown : Own w B v zs) (hn : zs.length ≤ 1073741824) (hB : B ≤ w.heap.size) (M : Int) (hM : 1073741824 < M) (hg : w.cell? ⟨0, 0, none⟩ = some (.int .i64 M)) :
    Calls Ebng.prog 9 #[v, .int .u8 c] w fun e w' => ∃ v', e = .returned v' ∧ Own w' B v' (zs ++ [c]) ∧ w.grownBy w' v.ownBlock := by
  obtain ⟨ao, cap, rfl⟩ := own_slice hown
  refine (byte_walk B ao zs.length cap (cb zs) c w hown hn hB M hM hg).mono ?_
  rintro e w' ⟨v', he, ho, hgr⟩
  exact ⟨v', he, by simpa [Own, cb] using ho, hgr⟩

/-! ### ZZfmtbufWrite (12) -/

/-- 'append(b, p...)', b of a named slice type, p of the bare one: the same run. -/
theorem append_types {P : Program} {t tx e e' : TypeId} {i : TypeInfo} (ht : P.underlying t = some (.slice e)) (hx : P.underlying tx = some (.slice e')) (hi : P.info? e = some i) (ty : TypeId) (ao : Option Addr) (n c : Nat) (x : Value) (w : World) :
    (Builtin.append_ #[t, tx] ty #[.slice ao n c, x]).run P w = (Builtin.append_ #[t, t] ty #[.slice ao n c, x]).run P w := by
  simp [Builtin.append_, run_underlying ht, run_underlying hx, sizeOf, typeInfo, hi]

theorem own_slice_at {w : World} {B : Nat} {e : TypeId} {size : Nat} {v : Value} {n : Nat} {xs : List Value} (h : w.ownsRow B e size v n xs) : ∃ ao cap, v = .slice ao n cap := by
  rcases h.2 with ⟨rfl, rfl⟩ | ⟨g, cap, cur, rfl, _⟩
  · exact ⟨_, _, rfl⟩
  · exact ⟨_, _, rfl⟩

theorem wpList_append_two {P : Program} (w : World) {ops : Array Oper} {rest : List Oper} {o : Oper} {a : Act} {Q : Exit → Act → World → Prop} (hgd : o.guard = none) (s x : Operand) (t tx : TypeId)
    (ho : o.op = .call { callee := .builtin .append, args := #[s, x], argTypes := #[t, tx] })
    (base : Nat) (e e' : TypeId) (i : TypeInfo) (z : Value) (size bytes : Nat) (ht : P.underlying t = some (.slice e)) (htx : P.underlying tx = some (.slice e')) (hi : P.info? e = some i) (hz : i.zero = some z)
    (hsize : i.size = size) (hby : i.bytes = bytes) (hzs : z.cells.size = size) (hsz : 0 < size)
    (v : Value) (n : Nat) (xs : List Value) (hs : a.eval s = v) (hown : w.ownsRow base e size v n xs)
    (ad : Option Addr) (m c : Nat) (news : List Value) (hx : a.eval x = .slice ad m c) (hnil : ad = none → m = 0 ∧ c = 0) (hl : news.length = m * size) (hnews : ∀ b, ad = some b → ∀ j u, news[j]? = some u → w.cell? (b.add j) = some u) (h1 : ∀ u ∈ news, u.oneCell' = true)
    (h63 : n + m ≤ maxLen) (hbytes : (n + m) * bytes ≤ 140737488355328) (hbase : base ≤ w.heap.size)
    (h : ∀ v' w', w'.ownsRow base e size v' (n + m) (xs ++ news) → w.grownBy w' v.ownBlock → wpList P ops Q rest (a.put o.dst v') w') : wpList P ops Q (o :: rest) a w := by
  refine wpList_plain hgd fun K hK => ?_
  have hr : ∃ v' w', (Builtin.append_ #[t, tx] o.type #[v, .slice ad m c]).run P w = .ok v' w' ∧ w'.ownsRow base e size v' (n + m) (xs ++ news) ∧ w.grownBy w' v.ownBlock := by
    obtain ⟨vo, vc, rfl⟩ := own_slice_at hown
    cases ad with
    | none =>
      obtain ⟨rfl, rfl⟩ := hnil rfl
      obtain rfl : news = [] := List.eq_nil_of_length_eq_zero (by simpa using hl)
      refine ⟨_, w, ?_, by simpa using hown, ⟨rfl, rfl, rfl, Nat.le_refl _, fun _ _ _ => rfl⟩⟩
      rw [append_types ht htx hi]
      exact run_append_owned_none (P := P) (w := w) base t o.type e i size ht hi _ n xs hown
    | some b =>
      obtain ⟨v', w', hr, h2, h3, _⟩ := run_append_own (P := P) w base t o.type e i z size bytes ht hi hz hsize hby hzs hsz _ n xs hown b m c news hl (hnews b rfl) h1 h63 hbytes hbase
      exact ⟨v', w', by rw [append_types ht htx hi]; exact hr, h2, h3⟩
  obtain ⟨v', w', hr, h2, h3⟩ := hr
  unfold Oper.wp
  simp [execOp, ho, resolve, invoke, builtin, hs, hx, hr, Result.andThen]
  exact hK _ _ (h v' w' h2 h3)

theorem grown_one (w : World) (o1 : Obj) (q : Nat) (row : Option Nat) : w.grownBy ((w.alloc o1).drewN q) row :=
  ⟨rfl, rfl, rfl, by simp, fun k hk _ => Below.heap_alloc w o1 k hk⟩

set_option maxHeartbeats 400000 in
theorem write_walk (B : Nat) (ao : Option Addr) (n cap : Nat) (xs : List Value) (po : Option Addr) (m pc : Nat) (ys : List Value) (w : World) (hown : w.ownsRow B 5 1 (.slice ao n cap) n xs) (hn : n ≤ 1048576) (hm : m ≤ 1048576) (hB : B ≤ w.heap.size)
    (hnil : po = none → m = 0 ∧ pc = 0) (hyl : ys.length = m) (hys : ∀ b, po = some b → ∀ j u, ys[j]? = some u → w.cell? (b.add j) = some u) (hy1 : ∀ u ∈ ys, u.oneCell' = true)
    (M : Int) (hM : 1073741824 < M) (hg : w.cell? ⟨0, 0, none⟩ = some (.int .i64 M)) :
    Calls Ebng.prog 12 #[.slice ao n cap, .slice po m pc] w fun e w' => ∃ v', e = .returned v' ∧ w'.ownsRow B 5 1 v' (n + m) (xs ++ ys) ∧ w.grownBy w' (Value.slice ao n cap).ownBlock := by
  obtain ⟨i0, hi, hz0, hz1, hz2⟩ := info_parts Ebng.info5
  have HO : Hid (w.ownsRow B 5 1 (.slice ao n cap) n xs) := hown
  have HNIL : Hid (po = none → m = 0 ∧ pc = 0) := hnil
  have HYL : Hid (ys.length = m) := hyl
  have HYS : Hid (∀ b, po = some b → ∀ j u, ys[j]? = some u → w.cell? (b.add j) = some u) := hys
  have hgs : 0 < w.heap.size := World.block_lt_of_cell? w _ hg
  clear hown hnil hyl hys
  go_enter Ebng.func12, Ebng.ntmps12
  go_wp2
  go_quiet (fail)
  go_wp2_with (first
    | (at_builtin; refine wpList_append_two _ rfl _ _ 35 22 rfl B 5 5 i0 (.int .u8 0) 1 1 Ebng.underlying35 Ebng.underlying22 hi hz0 hz1 hz2 rfl (by decide) _ n xs rfl (HO.out.alloc _) po m pc ys rfl HNIL.out ?c0 ?c1 hy1 ?c3 ?c4 ?c5 ?_)
    | fail)
  case c0 => rw [HYL.out, Nat.mul_one]
  case c1 =>
    intro b hb j u hj
    have h1 := HYS.out b hb j u hj
    show (w.alloc _).cell? _ = _
    rw [World.cell?_alloc_lt _ _ _ (World.block_lt_of_cell? w _ h1)]
    exact h1
  case c3 => unfold maxLen; omega
  case c4 => omega
  case c5 => simp; omega
  intro v' w1 hown1 hg1
  have hbox := box_kept HO.out (Nat.le_refl _) (show ((w.alloc (.cells #[.slice ao n cap] 35)).drewN nq).heap[w.heap.size]? = _ from heap_alloc_new w _) hg1
  have hc := cell_of_one hbox
  have hf := free_of_one hbox
  have HNB : Hid (v'.ownBlock ≠ some w.heap.size) := own_not_box hown1 hbox
  have HG : Hid (w.grownBy w1 (Value.slice ao n cap).ownBlock) := grown_trans_new (grown_one w _ nq _) hg1
  have HO1 : Hid (w1.ownsRow B 5 1 v' (n + m) (xs ++ ys)) := hown1
  obtain ⟨ao', cap', hv⟩ := own_slice hown1
  clear hg1 hown1 hbox
  subst hv
  go_wp2
  go_end0
  go_wp2
  go_ret
  exact ⟨_, rfl, ownsRow_setCell_other HO1.out HNB.out _, grown_setCell_new HG.out (Nat.le_refl _) _⟩

/-- ZZfmtbufWrite, whole. -/
theorem write_any (B : Nat) (v : Value) (zs : List Int) (po : Option Addr) (pc : Nat) (ps : List Int) (w : World) (hown : Own w B v zs) (hn : zs.length ≤ 1048576) (hm : ps.length ≤ 1048576) (hB : B ≤ w.heap.size)
    (hp : View .u8 w po ps) (hpc : po = none → pc = 0) (M : Int) (hM : 1073741824 < M) (hg : w.cell? ⟨0, 0, none⟩ = some (.int .i64 M)) :
    Calls Ebng.prog 12 #[v, .slice po ps.length pc] w fun e w' => ∃ v', e = .returned v' ∧ Own w' B v' (zs ++ ps) ∧ w.grownBy w' v.ownBlock := by
  obtain ⟨ao, cap, rfl⟩ := own_slice hown
  refine (write_walk B ao zs.length cap (cb zs) po ps.length pc (cb ps) w hown hn hm hB (fun e => ⟨hp.none e, hpc e⟩) (cb_length ps) ?_ (cb_one ps) M hM hg).mono ?_
  · intro b hb j u hj
    have hlt : j < ps.length := by
      rcases Nat.lt_or_ge j ps.length with h | h
      · exact h
      · simp [cb, h] at hj
    obtain ⟨b1, o1, e1⟩ := hp.plain (by omega)
    obtain rfl : b = ⟨b1, o1, none⟩ := by rw [hb] at e1; simpa using e1
    rw [cb_get ps j hlt] at hj
    rw [WideShapes.add_plain, ← hj]
    exact hp.cell b1 o1 hb j hlt
  · rintro e w' ⟨v', he, ho, hgr⟩
    exact ⟨v', he, by simpa [Own, cb] using ho, hgr⟩

end Go.Proofs.YoebnwDoor
