import Derived.Test.YbulkeftaT5
namespace Go.Proofs.Ybulkefta
open Go.RowKit

/-- block g: room for n pairs, the first i are (A j, N j) -/
def PairsRow (w : World) (g n i : Nat) (A N : Nat → Value) : Prop := ∃ cur : Array Value, w.heap[g]? = some (.cells cur 43 (0, 0)) ∧ cur.size = n * 2 ∧ ∀ j, j < i → cur[j * 2]? = some (A j) ∧ cur[j * 2 + 1]? = some (N j)
/-- block g: room for n slices, the first i are P j -/
def OneRow (w : World) (g n i : Nat) (P : Nat → Value) : Prop := ∃ cur : Array Value, w.heap[g]? = some (.cells cur 22 (0, 0)) ∧ cur.size = n ∧ ∀ j, j < i → cur[j]? = some (P j)

theorem PairsRow.same {w w' : World} {g n i : Nat} {A N : Nat → Value} (h : PairsRow w g n i A N) (e : w'.heap[g]? = w.heap[g]?) : PairsRow w' g n i A N := by
  obtain ⟨cur, h, r⟩ := h
  exact ⟨cur, e.trans h, r⟩
theorem OneRow.same {w w' : World} {g n i : Nat} {P : Nat → Value} (h : OneRow w g n i P) (e : w'.heap[g]? = w.heap[g]?) : OneRow w' g n i P := by
  obtain ⟨cur, h, r⟩ := h
  exact ⟨cur, e.trans h, r⟩
theorem PairsRow.cell {w : World} {g n i : Nat} {A N : Nat → Value} (h : PairsRow w g n i A N) (j : Nat) (hj : j < i) : w.cell? ⟨g, j * 2, none⟩ = some (A j) ∧ w.cell? ⟨g, j * 2 + 1, none⟩ = some (N j) := by
  obtain ⟨cur, h, hs, hc⟩ := h
  rw [cell_of_row w g _ cur 43 _ h, cell_of_row w g _ cur 43 _ h]
  exact hc j hj
theorem OneRow.cell {w : World} {g n i : Nat} {P : Nat → Value} (h : OneRow w g n i P) (j : Nat) (hj : j < i) : w.cell? ⟨g, j, none⟩ = some (P j) := by
  obtain ⟨cur, h, hs, hc⟩ := h
  rw [cell_of_row w g _ cur 22 _ h]
  exact hc j hj
theorem PairsRow.lt {w : World} {g n i : Nat} {A N : Nat → Value} (h : PairsRow w g n i A N) : g < w.heap.size := by
  obtain ⟨cur, h, _⟩ := h
  exact (Array.getElem?_eq_some_iff.1 h).1
theorem OneRow.lt {w : World} {g n i : Nat} {P : Nat → Value} (h : OneRow w g n i P) : g < w.heap.size := by
  obtain ⟨cur, h, _⟩ := h
  exact (Array.getElem?_eq_some_iff.1 h).1

theorem info43 : (Yba.prog.info? 43).map (fun i => (i.zero, i.size, i.bytes)) = some (some (.agg #[.slice none 0 0, .nilIface]), 2, 40) := by kernel_rfl
theorem info22 : (Yba.prog.info? 22).map (fun i => (i.zero, i.size, i.bytes)) = some (some (.slice none 0 0), 1, 24) := by kernel_rfl

theorem mk54 (n : Nat) (hn : n ≤ 1048576) (w : World) : (Instr.makeSlice 54 (.int .i64 0) (.int .i64 (n : Int))).run Yba.prog w =
    .ok (.slice (some ⟨w.heap.size, 0, none⟩) 0 n) (w.alloc (.cells (madeCells #[.slice none 0 0, .nilIface] (n * 2)) 43)) := by
  obtain ⟨i, hi, hz, e2, e3⟩ := info_parts info43
  have := run_make (P := Yba.prog) w 54 43 i _ Yba.underlying54 hi hz .i64 .i64 0 n (by omega) (by omega) (by rw [e3]; omega) (by omega)
  rw [e2] at this
  simpa [Value.cells] using this
theorem mk50 (n : Nat) (hn : n ≤ 1048576) (w : World) : (Instr.makeSlice 50 (.int .i64 0) (.int .i64 (n : Int))).run Yba.prog w =
    .ok (.slice (some ⟨w.heap.size, 0, none⟩) 0 n) (w.alloc (.cells (madeCells #[.slice none 0 0] n) 22)) := by
  obtain ⟨i, hi, hz, e2, e3⟩ := info_parts info22
  have := run_make (P := Yba.prog) w 50 22 i _ Yba.underlying50 hi hz .i64 .i64 0 n (by omega) (by omega) (by rw [e3]; omega) (by omega)
  rw [e2] at this
  simpa [Value.cells] using this
theorem PairsRow.made (w : World) (n : Nat) (A N : Nat → Value) : PairsRow (w.alloc (.cells (madeCells #[.slice none 0 0, .nilIface] (n * 2)) 43)) w.heap.size n 0 A N :=
  ⟨_, heap_alloc_new w _, size_madeCells _ _, fun j hj => absurd hj (by omega)⟩
theorem OneRow.made (w : World) (n : Nat) (P : Nat → Value) : OneRow (w.alloc (.cells (madeCells #[.slice none 0 0] n) 22)) w.heap.size n 0 P :=
  ⟨_, heap_alloc_new w _, size_madeCells _ _, fun j hj => absurd hj (by omega)⟩

def upd {α : Type} (f : Nat → α) (i : Nat) (x : α) : Nat → α := fun j => if j = i then x else f j

theorem wpList_append_pair {w : World} {ops : Array Oper} {rest : List Oper} {o : Oper} {a : Act} {Q : Exit → Act → World → Prop} (hgd : o.guard = none) (s y : Operand)
    (ho : o.op = .call { callee := .builtin .append, args := #[s, y], argTypes := #[54, 54] }) (g n i sb : Nat) (A N : Nat → Value) (p q : Value) (hs : a.eval s = .slice (some ⟨g, 0, none⟩) i n) (hr : PairsRow w g n i A N) (hi : i < n)
    (hy : a.eval y = .slice (some ⟨sb, 0, none⟩) 1 1) (hp : w.cell? ⟨sb, 0, none⟩ = some p) (hq : w.cell? ⟨sb, 1, none⟩ = some q) (o1 : p.oneCell' = true) (o2 : q.oneCell' = true)
    (h : ∀ w', PairsRow w' g n (i + 1) (upd A i p) (upd N i q) → w.grownBy w' (some g) → w'.heap.size = w.heap.size → wpList Yba.prog ops Q rest (a.put o.dst (.slice (some ⟨g, 0, none⟩) (i + 1) n)) w') :
    wpList Yba.prog ops Q (o :: rest) a w := by
  obtain ⟨i0, hi0, _, hz1, _⟩ := info_parts info43
  obtain ⟨cur, hg, hsz, hc⟩ := hr
  refine wpList_plain hgd fun K hK => ?_
  have hrun := run_append_room (P := Yba.prog) w 54 o.type 43 i0 Yba.underlying54 hi0 g i n cur hg ⟨sb, 0, none⟩ 1 1 [p, q] (by rw [hz1]; rfl)
    (fun j u hj => by
      rw [Addr.add_lit, Nat.zero_add]
      match j, hj with
      | 0, hj => simp at hj; rw [hp, hj]
      | 1, hj => simp at hj; rw [hq, hj])
    (fun u hu => by simp at hu; rcases hu with rfl | rfl; exact o1; exact o2) (by omega) (by rw [hz1]; simp; omega)
  unfold Oper.wp execOp
  simp only [ho, resolve, invoke, builtin, Sem.run_bind, Sem.run_pure, Result.andThen_ok, List.map_toArray, List.map_cons, List.map_nil, hs, hy, hrun]
  refine hK _ _ (h _ ⟨_, setRow_heap w g cur _ 43 _ hg, ?_, fun j hj => ?_⟩ ⟨rfl, rfl, rfl, by simp, fun k _ hk => setRow_other w g k _ (fun e => hk (by rw [e]))⟩ (by simp [World.setRow]))
  · rw [hz1]; simp; omega
  · rw [hz1]
    simp only [List.getElem?_toArray, upd]
    by_cases e : j = i
    · subst e
      simp only [if_true]
      have e1 : (List.take (j * 2) cur.toList).length = j * 2 := by simp; omega
      rw [List.append_assoc]
      constructor
      · rw [List.getElem?_append_right (by omega), e1, Nat.sub_self]; rfl
      · rw [List.getElem?_append_right (by omega), e1, show j * 2 + 1 - j * 2 = 1 by omega]; rfl
    · have hji : j < i := by omega
      simp only [if_neg e]
      rw [List.append_assoc, List.getElem?_append_left (by simp; omega), List.getElem?_append_left (by simp; omega), List.getElem?_take, List.getElem?_take, if_pos (by omega), if_pos (by omega)]
      simpa using hc j hji

theorem wpList_append_piece {w : World} {ops : Array Oper} {rest : List Oper} {o : Oper} {a : Act} {Q : Exit → Act → World → Prop} (hgd : o.guard = none) (s y : Operand)
    (ho : o.op = .call { callee := .builtin .append, args := #[s, y], argTypes := #[50, 50] }) (g n i sb : Nat) (P : Nat → Value) (p : Value) (hs : a.eval s = .slice (some ⟨g, 0, none⟩) i n) (hr : OneRow w g n i P) (hi : i < n)
    (hy : a.eval y = .slice (some ⟨sb, 0, none⟩) 1 1) (hp : w.cell? ⟨sb, 0, none⟩ = some p) (o1 : p.oneCell' = true)
    (h : ∀ w', OneRow w' g n (i + 1) (upd P i p) → w.grownBy w' (some g) → w'.heap.size = w.heap.size → wpList Yba.prog ops Q rest (a.put o.dst (.slice (some ⟨g, 0, none⟩) (i + 1) n)) w') :
    wpList Yba.prog ops Q (o :: rest) a w := by
  obtain ⟨i0, hi0, _, hz1, _⟩ := info_parts info22
  obtain ⟨cur, hg, hsz, hc⟩ := hr
  refine wpList_plain hgd fun K hK => ?_
  have hrun := run_append_room (P := Yba.prog) w 50 o.type 22 i0 Yba.underlying50 hi0 g i n cur hg ⟨sb, 0, none⟩ 1 1 [p] (by rw [hz1]; rfl)
    (fun j u hj => by
      rw [Addr.add_lit, Nat.zero_add]
      match j, hj with
      | 0, hj => simp at hj; rw [hp, hj])
    (fun u hu => by simp at hu; subst hu; exact o1) (by omega) (by rw [hz1]; simp; omega)
  unfold Oper.wp execOp
  simp only [ho, resolve, invoke, builtin, Sem.run_bind, Sem.run_pure, Result.andThen_ok, List.map_toArray, List.map_cons, List.map_nil, hs, hy, hrun]
  refine hK _ _ (h _ ⟨_, setRow_heap w g cur _ 22 _ hg, ?_, fun j hj => ?_⟩ ⟨rfl, rfl, rfl, by simp, fun k _ hk => setRow_other w g k _ (fun e => hk (by rw [e]))⟩ (by simp [World.setRow]))
  · rw [hz1]; simp; omega
  · rw [hz1]
    simp only [List.getElem?_toArray, upd, Nat.mul_one]
    by_cases e : j = i
    · subst e
      simp only [if_true]
      rw [List.append_assoc, List.getElem?_append_right (by simp; omega)]
      have e1 : (List.take j cur.toList).length = j := by simp; omega
      rw [e1, Nat.sub_self]
      rfl
    · have hji : j < i := by omega
      simp only [if_neg e]
      rw [List.append_assoc, List.getElem?_append_left (by simp; omega), List.getElem?_take, if_pos (by omega)]
      simpa using hc j hji

def sumTo (g : Nat → Nat) : Nat → Nat
  | 0 => 0
  | k + 1 => sumTo g k + g k

/-- the array and the pieces while they are built -/
structure Bld (w1 wr : World) (n ia ip : Nat) (A N P : Nat → Value) (B : Nat → List Int) (c : Nat → Nat) (z : Nat → Prop) : Prop where
  below : Below w1.heap.size w1 wr
  size : w1.heap.size + 3 ≤ wr.heap.size
  ctr : wr.heap[w1.heap.size]? = some (.cells #[.int .i64 0] 3 (0, 0))
  arr : PairsRow wr (w1.heap.size + 1) n ia A N
  pcs : OneRow wr (w1.heap.size + 2) n ip P
  el : ∀ j, j < ip → ElemAt wr w1.heap.size (fun k => w1.heap.size + 3 ≤ k) (A j) (N j) (B j) (c j) ∧ BytesAt wr (fun k => w1.heap.size + 3 ≤ k) (P j) (B j) ∧ (z j → N j = .nilIface)

section
variable {w1 wr w' : World} {n i : Nat} {A N P : Nat → Value} {B : Nat → List Int} {c : Nat → Nat} {z : Nat → Prop}
theorem Bld.keep {ia ip : Nat} (h : Bld w1 wr n ia ip A N P B c z) (hb : Below wr.heap.size wr w') : Bld w1 w' n ia ip A N P B c z where
  below := h.below.trans (hb.mono (by have := h.size; omega))
  size := Nat.le_trans h.size hb.size
  ctr := (hb.block _ (by have := h.size; omega)).trans h.ctr
  arr := h.arr.same (hb.block _ (by have := h.size; omega))
  pcs := h.pcs.same (hb.block _ (by have := h.size; omega))
  el j hj := ⟨(h.el j hj).1.keep (fun k _ hk => hb.block k hk) hb.size, (h.el j hj).2.1.keep (fun k _ hk => hb.block k hk) hb.size, (h.el j hj).2.2⟩
theorem Bld.pushA {p q : Value} (h : Bld w1 wr n i i A N P B c z) (hr : PairsRow w' (w1.heap.size + 1) n (i + 1) (upd A i p) (upd N i q)) (hg : wr.grownBy w' (some (w1.heap.size + 1))) : Bld w1 w' n (i + 1) i (upd A i p) (upd N i q) P B c z where
  below := h.below.grown hg (by have := h.size; omega) (fun k hk => by cases hk; omega)
  size := Nat.le_trans h.size hg.size
  ctr := (hg.block _ (by have := h.size; omega) (by simp)).trans h.ctr
  arr := hr
  pcs := h.pcs.same (hg.block _ (by have := h.size; omega) (by simp))
  el j hj := by
    have e : upd A i p j = A j := by simp [upd, show j ≠ i by omega]
    have e' : upd N i q j = N j := by simp [upd, show j ≠ i by omega]
    rw [e, e']
    exact ⟨(h.el j hj).1.keep (fun k hk hl => hg.block k hl (by simp; omega)) hg.size, (h.el j hj).2.1.keep (fun k hk hl => hg.block k hl (by simp; omega)) hg.size, (h.el j hj).2.2⟩
theorem Bld.pushP {p : Value} (h : Bld w1 wr n (i + 1) i A N P B c z) (hr : OneRow w' (w1.heap.size + 2) n (i + 1) (upd P i p)) (hg : wr.grownBy w' (some (w1.heap.size + 2)))
    (he : ElemAt wr w1.heap.size (fun k => w1.heap.size + 3 ≤ k) (A i) (N i) (B i) (c i)) (hb : BytesAt wr (fun k => w1.heap.size + 3 ≤ k) p (B i)) (hz : z i → N i = .nilIface) : Bld w1 w' n (i + 1) (i + 1) A N (upd P i p) B c z where
  below := h.below.grown hg (by have := h.size; omega) (fun k hk => by cases hk; omega)
  size := Nat.le_trans h.size hg.size
  ctr := (hg.block _ (by have := h.size; omega) (by simp)).trans h.ctr
  arr := h.arr.same (hg.block _ (by have := h.size; omega) (by simp))
  pcs := hr
  el j hj := by
    by_cases e : j = i
    · subst e
      have e' : upd P j p j = p := by simp [upd]
      rw [e']
      exact ⟨he.keep (fun k hk hl => hg.block k hl (by simp; omega)) hg.size, hb.keep (fun k hk hl => hg.block k hl (by simp; omega)) hg.size, hz⟩
    · have e' : upd P i p j = P j := by simp [upd, e]
      rw [e']
      have hj' : j < i := by omega
      exact ⟨(h.el j hj').1.keep (fun k hk hl => hg.block k hl (by simp; omega)) hg.size, (h.el j hj').2.1.keep (fun k hk hl => hg.block k hl (by simp; omega)) hg.size, (h.el j hj').2.2⟩
end

theorem PairsRow.congr {w : World} {g n i : Nat} {A N A' N' : Nat → Value} (h : PairsRow w g n i A N) (e : ∀ j, j < i → A j = A' j ∧ N j = N' j) : PairsRow w g n i A' N' := by
  obtain ⟨cur, h, hs, hc⟩ := h
  exact ⟨cur, h, hs, fun j hj => by rw [← (e j hj).1, ← (e j hj).2]; exact hc j hj⟩

/-- a nested array of texts and its pieces while they are built: blocks s, s + 1 -/
structure SBld (wr wx : World) (m ia ip : Nat) (A P : Nat → Value) (f : Nat → List Int) : Prop where
  below : Below wr.heap.size wr wx
  size : wr.heap.size + 2 ≤ wx.heap.size
  arr : PairsRow wx wr.heap.size m ia A (fun _ => .nilIface)
  pcs : OneRow wx (wr.heap.size + 1) m ip P
  elA : ∀ t, t < ia → BytesAt wx (fun k => wr.heap.size + 2 ≤ k) (A t) (f t)
  elP : ∀ t, t < ip → BytesAt wx (fun k => wr.heap.size + 2 ≤ k) (P t) (f t)

section
variable {wr wx w' : World} {m i : Nat} {A P : Nat → Value} {f : Nat → List Int}
theorem SBld.keep {ia ip : Nat} (h : SBld wr wx m ia ip A P f) (hb : Below wx.heap.size wx w') : SBld wr w' m ia ip A P f where
  below := h.below.trans (hb.mono (by have := h.size; omega))
  size := Nat.le_trans h.size hb.size
  arr := h.arr.same (hb.block _ (by have := h.size; omega))
  pcs := h.pcs.same (hb.block _ (by have := h.size; omega))
  elA t ht := (h.elA t ht).keep (fun k _ hk => hb.block k hk) hb.size
  elP t ht := (h.elP t ht).keep (fun k _ hk => hb.block k hk) hb.size
theorem SBld.pushA {p : Value} (h : SBld wr wx m i i A P f) (hr : PairsRow w' wr.heap.size m (i + 1) (upd A i p) (upd (fun _ => .nilIface) i .nilIface)) (hg : wx.grownBy w' (some wr.heap.size)) (hp : BytesAt wx (fun k => wr.heap.size + 2 ≤ k) p (f i)) : SBld wr w' m (i + 1) i (upd A i p) P f where
  below := h.below.grown hg (by have := h.size; omega) (fun k hk => by cases hk; omega)
  size := Nat.le_trans h.size hg.size
  arr := hr.congr fun j _ => ⟨rfl, by simp [upd]⟩
  pcs := h.pcs.same (hg.block _ (by have := h.size; omega) (by simp))
  elA t ht := by
    by_cases e : t = i
    · subst e
      have e' : upd A t p t = p := by simp [upd]
      rw [e']
      exact hp.keep (fun k hk hl => hg.block k hl (by simp; omega)) hg.size
    · have e' : upd A i p t = A t := by simp [upd, e]
      rw [e']
      exact (h.elA t (by omega)).keep (fun k hk hl => hg.block k hl (by simp; omega)) hg.size
  elP t ht := (h.elP t ht).keep (fun k hk hl => hg.block k hl (by simp; omega)) hg.size
theorem SBld.pushP {p : Value} (h : SBld wr wx m (i + 1) i A P f) (hr : OneRow w' (wr.heap.size + 1) m (i + 1) (upd P i p)) (hg : wx.grownBy w' (some (wr.heap.size + 1))) (hp : BytesAt wx (fun k => wr.heap.size + 2 ≤ k) p (f i)) : SBld wr w' m (i + 1) (i + 1) A (upd P i p) f where
  below := h.below.grown hg (by have := h.size; omega) (fun k hk => by cases hk; omega)
  size := Nat.le_trans h.size hg.size
  arr := h.arr.same (hg.block _ (by have := h.size; omega) (by simp))
  pcs := hr
  elA t ht := (h.elA t ht).keep (fun k hk hl => hg.block k hl (by simp; omega)) hg.size
  elP t ht := by
    by_cases e : t = i
    · subst e
      have e' : upd P t p t = p := by simp [upd]
      rw [e']
      exact hp.keep (fun k hk hl => hg.block k hl (by simp; omega)) hg.size
    · have e' : upd P i p t = P t := by simp [upd, e]
      rw [e']
      exact (h.elP t (by omega)).keep (fun k hk hl => hg.block k hl (by simp; omega)) hg.size
theorem SBld.made (wr : World) (m : Nat) (A P : Nat → Value) (f : Nat → List Int) : SBld wr ((wr.alloc (.cells (madeCells #[.slice none 0 0, .nilIface] (m * 2)) 43)).alloc (.cells (madeCells #[.slice none 0 0] m) 22)) m 0 0 A P f where
  below := ((Below.refl _ _).alloc (Nat.le_refl _) _).alloc (by simp) _
  size := by simp
  arr := (PairsRow.made wr m A (fun _ => .nilIface)).same (Go.heap_alloc_old _ _ (by simp))
  pcs := by
    have := OneRow.made (wr.alloc (.cells (madeCells #[.slice none 0 0, .nilIface] (m * 2)) 43)) m P
    simpa using this
  elA t ht := absurd ht (by omega)
  elP t ht := absurd ht (by omega)
end

theorem Bld.made (w1 : World) (n : Nat) (A N P : Nat → Value) (B : Nat → List Int) (c : Nat → Nat) (z : Nat → Prop) :
    Bld w1 (((w1.alloc (.cells #[.int .i64 0] 3)).alloc (.cells (madeCells #[.slice none 0 0, .nilIface] (n * 2)) 43)).alloc (.cells (madeCells #[.slice none 0 0] n) 22)) n 0 0 A N P B c z where
  below := (((Below.refl _ _).alloc (Nat.le_refl _) _).alloc (by simp) _).alloc (by simp; omega) _
  size := by simp
  ctr := by rw [Go.heap_alloc_old _ _ (by simp; omega), Go.heap_alloc_old _ _ (by simp)]; exact heap_alloc_new w1 _
  arr := by
    have := (PairsRow.made (w1.alloc (.cells #[.int .i64 0] 3)) n A N).same (w' := ((w1.alloc (.cells #[.int .i64 0] 3)).alloc (.cells (madeCells #[.slice none 0 0, .nilIface] (n * 2)) 43)).alloc (.cells (madeCells #[.slice none 0 0] n) 22)) (Go.heap_alloc_old _ _ (by simp))
    simpa using this
  pcs := by
    have := OneRow.made ((w1.alloc (.cells #[.int .i64 0] 3)).alloc (.cells (madeCells #[.slice none 0 0, .nilIface] (n * 2)) 43)) n P
    simpa [Nat.add_assoc] using this
  el j hj := absurd hj (by omega)

theorem fc_len (f : Nat → List Int) : ∀ k, (fc f k).length = sumTo (fun t => (f t).length) k + k
  | 0 => rfl
  | k + 1 => by simp [fc, fc_len f k, sumTo]; omega

/-- what element j yields -/
def BB (kd : Nat → Int) (tb : Nat → List Int) (sl : Nat → Nat) (sb : Nat → Nat → List Int) (j : Nat) : List Int := if kd j % 3 = 0 then tb j else if kd j % 3 = 1 then tb j else arr (sb j) (sl j)
def cc (kd : Nat → Int) (j : Nat) : Nat := if kd j % 3 = 1 then 1 else 0
end Go.Proofs.Ybulkefta
