import Derived.Test.YbulkeftaT2
namespace Go.Proofs.Ybulkefta
open Go.RowKit

/-- in w all blocks that lay in w0 are as they were but for block C, a counter that holds cnt -/
structure St (C : Nat) (w0 : World) (cnt : Int) (w : World) : Prop where
  os : w.os = w0.os
  tape : w.tape = w0.tape
  output : w.output = w0.output
  size : w0.heap.size ≤ w.heap.size
  block : ∀ k, k < w0.heap.size → k ≠ C → w.heap[k]? = w0.heap[k]?
  ctr : w.heap[C]? = some (.cells #[.int .i64 cnt] 3 (0, 0))
  lt : C < w0.heap.size

section
variable {C : Nat} {w0 w w' : World} {cnt : Int}
theorem St.grown {row : Option Nat} (h : St C w0 cnt w) (hg : w.grownBy w' row) (hr : ∀ k, row = some k → w0.heap.size ≤ k) : St C w0 cnt w' where
  os := hg.os.trans h.os
  tape := hg.tape.trans h.tape
  output := hg.output.trans h.output
  size := Nat.le_trans h.size hg.size
  block k hk hC := (hg.block k (Nat.lt_of_lt_of_le hk h.size) (fun e => by have := hr k e.symm; omega)).trans (h.block k hk hC)
  ctr := (hg.block C (Nat.lt_of_lt_of_le h.lt h.size) (fun e => by have := hr C e.symm; have := h.lt; omega)).trans h.ctr
  lt := h.lt
theorem St.alloc (h : St C w0 cnt w) (o : Obj) : St C w0 cnt (w.alloc o) := h.grown (World.grownBy_alloc w o none) (fun _ e => by cases e)
theorem St.drew (h : St C w0 cnt w) : St C w0 cnt w.drew := ⟨h.os, h.tape, h.output, h.size, h.block, h.ctr, h.lt⟩
theorem St.owns {v : Value} {n : Nat} {xs : List Value} {e : TypeId} {size : Nat} (h : St C w0 cnt w) (ho : w.ownsRow w0.heap.size e size v n xs) (hg : w.grownBy w' v.ownBlock) : St C w0 cnt w' :=
  h.grown hg fun k hk => (ho.lt k hk).1
theorem St.count (h : St C w0 cnt w) (c : Int) : St C w0 c (w.setCell ⟨C, 0, none⟩ (.int .i64 c)) where
  os := h.os
  tape := h.tape
  output := h.output
  size := by simpa [World.setCell] using h.size
  block k hk hC := (Below.heap_setCell _ _ _ _ hC).trans (h.block k hk hC)
  ctr := by rw [heap_setCell_at h.ctr]; rfl
  lt := h.lt
theorem St.bytes {v : Value} {xs : List Int} (h : St C w0 cnt w) (hb : BytesAt w0 (fun k => k ≠ C) v xs) : BytesAt w (fun k => k ≠ C) v xs := hb.keep (fun k hk hl => h.block k hl hk) h.size
theorem St.cell {k i : Nat} {v : Value} (h : St C w0 cnt w) (hC : k ≠ C) (hc : w0.cell? ⟨k, i, none⟩ = some v) : w.cell? ⟨k, i, none⟩ = some v := by
  rw [World.cell?_of_block (w := w0) (h.block k (World.block_lt_of_cell? _ _ hc) hC)]; exact hc
end

def ElemOK (C : Nat) (w0 : World) (A N : Value) (bs : List Int) (c : Nat) : Prop :=
  ∀ (w : World) (v : Value) (n : Nat) (xs : List Int) (cnt : Int), St C w0 cnt w → w.ownsRow w0.heap.size 5 1 v n (bcells xs) → n + bs.length ≤ 1099511627776 → 0 ≤ cnt → cnt ≤ 1099511627776 →
    Calls Yba.prog 16 #[.agg #[A, N], v] w fun e w' => ∃ v', e = .returned v' ∧ w'.ownsRow w0.heap.size 5 1 v' (n + bs.length) (bcells (xs ++ bs)) ∧ St C w0 (cnt + c) w'

set_option maxHeartbeats 1000000 in
theorem elem0 (C : Nat) (w0 : World) (A : Value) (bs : List Int) (h : BytesAt w0 (fun k => k ≠ C) A bs) : ElemOK C w0 A .nilIface bs 0 := by
  intro w v n xs cnt hst hown hn h0 h1
  obtain ⟨i0, hi, hz0, hz1, hz2⟩ := info_parts info5
  have hsz := hst.size
  have HB := hide ((hst.bytes h).keep (w' := w.alloc (.cells #[A, .nilIface] 43)) (fun k _ hk => Go.heap_alloc_old _ _ hk) (by simp))
  have HOW := hide (hown.alloc (.cells #[A, .nilIface] 43))
  have HST := hide (hst.alloc (.cells #[A, .nilIface] 43))
  obtain ⟨a, c, rfl⟩ := h.shape
  clear h hst hown
  go_enter Yba.func16, Yba.ntmps16
  go_wp2_with (at_builtin; refine wpList_append_own_src _ rfl (.tmp 12) (.tmp 14) 22 22 rfl w0.heap.size 5 i0 (.int .u8 0) 1 1 Yba.underlying22 hi hz0 hz1 hz2 rfl _ _ _ rfl HOW.out _ _ _ rfl HB.out.src (by unfold maxLen; omega) (by omega) (by simp; omega) ?_)
  intro v' w' hown' hgr hnil hat
  have HS := hide (HST.out.owns HOW.out hgr)
  have HO := hide hown'
  clear hown' hgr hnil hat
  go_wp2
  go_ret
  refine ⟨_, rfl, ?_, by simpa using HS.out⟩
  have := HO.out
  rw [← bcells_append] at this
  exact this

set_option maxHeartbeats 1000000 in
theorem node (C nb : Nat) (w0 : World) (tv : Value) (bs : List Int) (hnb : nb ≠ C) (hn0 : w0.heap[nb]? = some (.cells #[tv, .pointer (some ⟨C, 0, none⟩)] 59 (0, 0))) (h : BytesAt w0 (fun k => k ≠ C) tv bs)
    (w : World) (v : Value) (n : Nat) (xs : List Int) (cnt : Int) (hst : St C w0 cnt w) (hown : w.ownsRow w0.heap.size 5 1 v n (bcells xs)) (hn : n + bs.length ≤ 1099511627776) (h0 : 0 ≤ cnt) (h1 : cnt ≤ 1099511627776) :
    Calls Yba.prog 33 #[.pointer (some ⟨nb, 0, none⟩), v] w fun e w' => ∃ v', e = .returned v' ∧ w'.ownsRow w0.heap.size 5 1 v' (n + bs.length) (bcells (xs ++ bs)) ∧ St C w0 (cnt + 1) w' := by
  obtain ⟨i0, hi, hz0, hz1, hz2⟩ := info_parts info5
  have hsz := hst.size
  have hnbw : w.heap[nb]? = some (.cells #[tv, .pointer (some ⟨C, 0, none⟩)] 59 (0, 0)) := (hst.block nb (Array.getElem?_eq_some_iff.1 hn0).1 hnb).trans hn0
  have d0 : w.cell? ⟨nb, 0, none⟩ = some tv := by simp [World.cell?, hnbw]
  have d1 : w.cell? ⟨nb, 1, none⟩ = some (.pointer (some ⟨C, 0, none⟩)) := by simp [World.cell?, hnbw]
  have e0 : w.cell? ⟨C, 0, none⟩ = some (.int .i64 cnt) := by simp [World.cell?, hst.ctr]
  have f0 : w.frozen? ⟨C, 0, none⟩ = false := by simp [World.frozen?, hst.ctr]
  have HC := hide (hst.count (cnt + 1))
  have HB := hide (HC.out.bytes h)
  have HOW := hide (ownsRow_setCell_below (a := ⟨C, 0, none⟩) hown hst.lt (.int .i64 (cnt + 1)))
  clear h hst hown hn0 hnbw
  go_enter Yba.func33, Yba.ntmps33
  go_wp2
  go_region
  have HC' := hide HC.out.drew
  have HB' := hide (HB.out.keep (w' := (w.setCell ⟨C, 0, none⟩ (.int .i64 (cnt + 1))).drew) (fun _ _ _ => rfl) (Nat.le_refl _))
  have HOW' : Hid ((w.setCell ⟨C, 0, none⟩ (.int .i64 (cnt + 1))).drew.ownsRow w0.heap.size 5 1 v n (bcells xs)) := HOW.out
  obtain ⟨a, c, rfl⟩ := HB.out.shape
  have d0' : (w.setCell ⟨C, 0, none⟩ (.int .i64 (cnt + 1))).cell? ⟨nb, 0, none⟩ = some (.slice a bs.length c) := by
    rw [World.cell?_of_block (w := w) (Below.heap_setCell _ _ _ _ hnb)]; exact d0
  clear HC HB HOW
  have hsz' : w0.heap.size ≤ (w.setCell ⟨C, 0, none⟩ (.int .i64 (cnt + 1))).drew.heap.size := HC'.out.size
  go_wp2_with (at_builtin; refine wpList_append_own_src _ rfl (.tmp 17) (.tmp 21) 22 22 rfl w0.heap.size 5 i0 (.int .u8 0) 1 1 Yba.underlying22 hi hz0 hz1 hz2 rfl _ _ _ rfl HOW'.out _ _ _ rfl HB'.out.src (by unfold maxLen; omega) (by omega) hsz' ?_)
  intro v' w' hown' hgr hnil hat
  have HS := hide (HC'.out.owns HOW'.out hgr)
  have HO := hide hown'
  clear hown' hgr hnil hat
  go_wp2
  go_ret
  refine ⟨_, rfl, ?_, HS.out⟩
  have := HO.out
  rw [← bcells_append] at this
  exact this

/-- a node's method, by its type -/
theorem meth_ptr (nm : String) (h : Yba.prog.underlying 41 = some (.interface #[(nm, 46)])) (a : Addr) (w : World) : (method 184 56 (.pointer (some a)) nm).run Yba.prog w = .ok (33, .pointer (some a)) w := by
  have e := h.symm.trans Yba.underlying41
  simp only [Option.some.injEq, TypeDesc.interface.injEq, Array.mk.injEq, List.cons.injEq, Prod.mk.injEq, and_true] at e
  subst e
  show (method 184 56 (.pointer (some a)) _).run Yba.prog w = .ok (33, .pointer (some a)) w
  kernel_rfl

set_option maxHeartbeats 1000000 in
theorem elem1 (C nb : Nat) (w0 : World) (tv : Value) (bs : List Int) (hnb : nb ≠ C) (hn0 : w0.heap[nb]? = some (.cells #[tv, .pointer (some ⟨C, 0, none⟩)] 59 (0, 0))) (h : BytesAt w0 (fun k => k ≠ C) tv bs) :
    ElemOK C w0 (.slice none 0 0) (.iface 56 (.pointer (some ⟨nb, 0, none⟩))) bs 1 := by
  intro w v n xs cnt hst hown hn h0 h1
  have HN := hide (node C nb w0 tv bs hnb hn0 h (w.alloc (.cells #[.slice none 0 0, .iface 56 (.pointer (some ⟨nb, 0, none⟩))] 43)) v n xs cnt (hst.alloc _) (hown.alloc _) hn h0 h1)
  have hm := fun w => meth_ptr _ Yba.underlying41 ⟨nb, 0, none⟩ w
  clear h hst hown hn0
  go_enter Yba.func16, Yba.ntmps16
  go_wp2_with (go_at_call 33; refine HN.out.mono ?_)
  rintro e w' ⟨v', rfl, ho, hs⟩
  have HO := hide ho
  have HS := hide hs
  clear ho hs
  go_wp2
  go_ret
  exact ⟨_, rfl, HO.out, HS.out⟩

/-- how often nodes are called in the first k elements -/
def csum (c : Nat → Nat) : Nat → Nat
  | 0 => 0
  | k + 1 => csum c k + c k
theorem csum_mono (c : Nat → Nat) : ∀ k j, j ≤ k → csum c j ≤ csum c k
  | 0, j, h => by rw [Nat.le_zero.1 h]; exact Nat.le_refl _
  | k + 1, j, h => by
    by_cases e : j = k + 1
    · rw [e]; exact Nat.le_refl _
    · have := csum_mono c k j (by omega)
      simp only [csum]; omega

/-- what an append of at least one byte may be laid upon: a slice of the call's own, or a full one -/
def Dst (w : World) (B : Nat) (v : Value) (n : Nat) (xs : List Int) : Prop :=
  w.ownsRow B 5 1 v n (bcells xs) ∨ (∃ a T, v = .slice a n n ∧ n = xs.length ∧ BytesAt w T v xs)

theorem run_append_dst (w : World) (B : Nat) (v : Value) (n : Nat) (xs : List Int) (ty : TypeId) (x : Value) (m : Nat) (news : List Value) (hd : Dst w B v n xs) (hs : Src Yba.prog 1 22 x m news w) (hm : 0 < m)
    (hB : B ≤ w.heap.size) (hbytes : n + m ≤ 140737488355328) :
    ∃ v' w', (Builtin.append_ #[22, 22] ty #[v, x]).run Yba.prog w = .ok v' w' ∧ w'.ownsRow B 5 1 v' (n + m) (bcells xs ++ news) ∧ ∃ row, w.grownBy w' row ∧ ∀ k, row = some k → B ≤ k := by
  obtain ⟨i0, hi, hz0, hz1, hz2⟩ := info_parts info5
  rcases hd with ho | ⟨a, T, rfl, hx, hb⟩
  · obtain ⟨v', w', h1, h2, h3, _⟩ := run_append_own_src w B 22 22 ty 5 i0 (.int .u8 0) 1 1 Yba.underlying22 hi hz0 hz1 hz2 rfl v n (bcells xs) ho x m news hs (by unfold maxLen; omega) (by omega) hB
    exact ⟨v', w', h1, h2, v.ownBlock, h3, fun k hk => (ho.lt k hk).1⟩
  · have hs' : Src Yba.prog i0.size 22 x m news w := by rw [hz1]; exact hs
    have hsb := hb.src
    rw [← hx] at hsb
    have hr := run_append_grow_src (P := Yba.prog) w 22 22 ty 5 i0 (.int .u8 0) Yba.underlying22 hi hz0 a n n (bcells xs) (by rw [hz1]; exact hsb.cellsD) x m news hs' (by omega) (by omega) (by rw [hz2]; exact growslice_fits (by omega) (by omega))
    have hge := grownCap_ge w (n + m) n 5
    have hcm : grownCap w (n + m) n 5 ≤ maxLen := grownCap_le_maxLen w (n + m) n 5 (by unfold maxLen; omega)
    have hl := hs.newsLen
    have hlen : (bcells xs ++ news).length = (n + m) * 1 := by rw [List.length_append, length_bcells, hl, hx]; omega
    refine ⟨_, _, hr, ⟨hlen, .inr ⟨w.heap.size, _, _, rfl, hB, heap_alloc_new w.drew _, hge, hcm, ?_, ?_⟩⟩, none, ⟨rfl, rfl, rfl, by simp, fun k hk _ => Go.heap_alloc_old w.drew _ hk⟩, fun _ e => by cases e⟩
    · simp only [Array.size_append, List.size_toArray, size_zeroCells, hlen, Value.cells]
      show (n + m) * 1 + _ * 1 = _
      omega
    · simp only [Array.toList_append]
      rw [← hlen]
      exact List.take_left

theorem wpList_append_dst {w : World} {ops : Array Oper} {rest : List Oper} {o : Oper} {a : Act} {Q : Exit → Act → World → Prop} (hgd : o.guard = none) (s y : Operand)
    (ho : o.op = .call { callee := .builtin .append, args := #[s, y], argTypes := #[22, 22] }) (B : Nat) (v : Value) (n : Nat) (xs : List Int) (hs : a.eval s = v) (hd : Dst w B v n xs)
    (x : Value) (m : Nat) (news : List Value) (hx : a.eval y = x) (hsrc : Src Yba.prog 1 22 x m news w) (hm : 0 < m) (hB : B ≤ w.heap.size) (hbytes : n + m ≤ 140737488355328)
    (h : ∀ v' w', w'.ownsRow B 5 1 v' (n + m) (bcells xs ++ news) → (∃ row, w.grownBy w' row ∧ ∀ k, row = some k → B ≤ k) → wpList Yba.prog ops Q rest (a.put o.dst v') w') :
    wpList Yba.prog ops Q (o :: rest) a w := by
  refine wpList_plain hgd fun K hK => ?_
  obtain ⟨v', w', hr, h2, h3⟩ := run_append_dst w B v n xs o.type x m news hd hsrc hm hB hbytes
  unfold Oper.wp execOp
  simp only [ho, resolve, invoke, builtin, Sem.run_bind, Sem.run_pure, Result.andThen_ok, List.map_toArray, List.map_cons, List.map_nil, hs, hx, hr]
  exact hK _ _ (h v' w' h2 h3)

theorem Dst.alloc {w : World} {B n : Nat} {v : Value} {xs : List Int} (h : Dst w B v n xs) (o : Obj) : Dst (w.alloc o) B v n xs := by
  rcases h with h | ⟨a, T, h1, h2, h3⟩
  · exact .inl (h.alloc o)
  · exact .inr ⟨a, T, h1, h2, h3.keep (fun k _ hk => Go.heap_alloc_old _ _ hk) (by simp)⟩
end Go.Proofs.Ybulkefta
