import Derived.Test.YbulkefsmC1
import Derived.Laws.CopyOwn
namespace Go.Proofs.Ybulkefsm
open Go.RowKit

theorem heap_setCell_cells {w : World} {r i : Nat} {cs : Array Value} {t : TypeId} {fr : Nat × Nat} (h : w.heap[r]? = some (.cells cs t fr)) (v : Value) :
    (w.setCell ⟨r, i, none⟩ v).heap[r]? = some (.cells (cs.setIfInBounds i v) t fr) := by
  simp [World.setCell, Array.getElem?_modify, h]

/-- block g: n pairs of numbers -/
def RowIs (w : World) (g n : Nat) (A B : Nat → Int) : Prop := ∃ cur : Array Value, w.heap[g]? = some (.cells cur 44 (0, 0)) ∧ cur.size = n * 2 ∧ ∀ j, j < n → cur[j * 2]? = some (.int .i64 (A j)) ∧ cur[j * 2 + 1]? = some (.int .i64 (B j))

theorem RowIs.lt {w : World} {g n : Nat} {A B : Nat → Int} (h : RowIs w g n A B) : g < w.heap.size := by
  obtain ⟨cur, h, _⟩ := h
  exact (Array.getElem?_eq_some_iff.1 h).1

theorem RowIs.cell {w : World} {g n : Nat} {A B : Nat → Int} (h : RowIs w g n A B) (j : Nat) (hj : j < n) : w.cell? ⟨g, j * 2, none⟩ = some (.int .i64 (A j)) ∧ w.cell? ⟨g, j * 2 + 1, none⟩ = some (.int .i64 (B j)) := by
  obtain ⟨cur, h, hs, hc⟩ := h
  rw [cell_of_row w g _ cur 44 _ h, cell_of_row w g _ cur 44 _ h]
  exact hc j hj

theorem RowIs.frozen {w : World} {g n : Nat} {A B : Nat → Int} (h : RowIs w g n A B) (i : Nat) : w.frozen? ⟨g, i, none⟩ = false := by
  obtain ⟨cur, h, hs, hc⟩ := h
  simp [World.frozen?, h]

theorem RowIs.same {w w' : World} {g n : Nat} {A B : Nat → Int} (h : RowIs w g n A B) (e : w'.heap[g]? = w.heap[g]?) : RowIs w' g n A B := by
  obtain ⟨cur, h, r⟩ := h
  exact ⟨cur, e.trans h, r⟩

theorem RowIs.below {w w' : World} {g n C : Nat} {A B : Nat → Int} (h : RowIs w g n A B) (hb : Below C w w') (hg : g < C) : RowIs w' g n A B := h.same (hb.block g hg)

theorem RowIs.congr {w : World} {g n : Nat} {A B A' B' : Nat → Int} (h : RowIs w g n A B) (e : ∀ j, j < n → A j = A' j ∧ B j = B' j) : RowIs w g n A' B' := by
  obtain ⟨cur, h, hs, hc⟩ := h
  exact ⟨cur, h, hs, fun j hj => by rw [← (e j hj).1, ← (e j hj).2]; exact hc j hj⟩

theorem RowIs.set {w : World} {g n : Nat} {A B : Nat → Int} (h : RowIs w g n A B) (k : Nat) (hk : k < n) (a b : Int) :
    RowIs ((w.setCell ⟨g, k * 2, none⟩ (.int .i64 a)).setCell ⟨g, k * 2 + 1, none⟩ (.int .i64 b)) g n (fun j => if j = k then a else A j) (fun j => if j = k then b else B j) := by
  obtain ⟨cur, h, hs, hc⟩ := h
  refine ⟨_, heap_setCell_cells (heap_setCell_cells h _) _, by simpa using hs, fun j hj => ?_⟩
  obtain ⟨c1, c2⟩ := hc j hj
  by_cases e : j = k
  · subst e
    simp only [Array.getElem?_setIfInBounds, Array.size_setIfInBounds]
    have h1 : j * 2 < cur.size := by omega
    have h2 : j * 2 + 1 < cur.size := by omega
    simp [h1, h2]
  · simp only [Array.getElem?_setIfInBounds, Array.size_setIfInBounds, if_neg e]
    rw [if_neg (by omega), if_neg (by omega), if_neg (by omega), if_neg (by omega)]
    exact ⟨c1, c2⟩

theorem madeCells_pair (n i : Nat) (h : i < n * 2) : (madeCells #[.int .i64 0, .int .i64 0] (n * 2))[i]? = some (.int .i64 0) := by
  simp only [madeCells, Array.getElem?_map]
  rw [Array.getElem?_eq_getElem (by simpa using h)]
  simp only [Array.getElem_range, Option.map_some]
  have : i % 2 = 0 ∨ i % 2 = 1 := by omega
  rcases this with e | e <;> simp [e]

theorem RowIs.made (w : World) (n : Nat) : RowIs (w.alloc (.cells (madeCells #[.int .i64 0, .int .i64 0] (n * 2)) 44)) w.heap.size n (fun _ => 0) (fun _ => 0) :=
  ⟨_, heap_alloc_new w _, size_madeCells _ _, fun j hj => ⟨madeCells_pair n _ (by omega), madeCells_pair n _ (by omega)⟩⟩

/-- copy: a row of n elements onto another of n elements, elements of whatever size. -/
theorem run_copy_whole {P : Program} (w : World) (dT sT ty elem : TypeId) (g n dCap : Nat) (a : Addr) (sCap : Nat) (cur : Array Value) (t : TypeId) (cs : List Value) (size : Nat)
    (hu : P.underlying dT = some (.slice elem)) (hs : (P.info? elem).map (·.size) = some size)
    (hg : w.heap[g]? = some (.cells cur t (0, 0))) (hl : cs.length = n * size) (hcur : cur.size = n * size)
    (hsrc : ∀ j v, cs[j]? = some v → w.cell? (a.add j) = some v) (h1 : ∀ v ∈ cs, v.oneCell' = true) :
    (Builtin.copy_ #[dT, sT] ty #[.slice (some ⟨g, 0, none⟩) n dCap, .slice (some a) n sCap]).run P w = .ok (goInt n) (w.setRow g cs.toArray) := by
  have hld := run_loadCells_list (P := P) w a cs hsrc
  have hst := run_storeCells_at P g 0 t cs 0 cur w hg (by omega) h1
  have e : cur.toList.drop (0 + 0 + cs.length) = [] := List.drop_eq_nil_of_le (by simp; omega)
  rw [e] at hst
  simp only [Nat.add_zero, List.take_zero, List.nil_append, List.append_nil] at hst
  cases hq : P.info? elem with
  | none => simp [hq] at hs
  | some i =>
    have hi : i.size = size := by simpa [hq] using hs
    have hm : n.min n = n := Nat.min_self n
    simp [Builtin.copy_, run_underlying hu, Builtin.lenOf, Builtin.firstCells, sizeOf, typeInfo, hq, hi, hm, ← hl, hld, hst]

theorem wpList_copy_whole {P : Program} {w : World} {ops : Array Oper} {rest : List Oper} {o : Oper} {a : Act} {Q : Exit → Act → World → Prop} (hgd : o.guard = none) (d s : Operand) (dT sT : TypeId)
    (ho : o.op = .call { callee := .builtin .copy, args := #[d, s], argTypes := #[dT, sT] }) (elem : TypeId) (hu : P.underlying dT = some (.slice elem)) (size : Nat) (hsz : (P.info? elem).map (·.size) = some size)
    (g n dCap : Nat) (ad : Addr) (sCap : Nat) (hd : a.eval d = .slice (some ⟨g, 0, none⟩) n dCap) (hs : a.eval s = .slice (some ad) n sCap)
    (cur : Array Value) (t : TypeId) (hg : w.heap[g]? = some (.cells cur t (0, 0))) (cs : List Value) (hl : cs.length = n * size) (hcur : cur.size = n * size)
    (hsrc : ∀ j v, cs[j]? = some v → w.cell? (ad.add j) = some v) (h1 : ∀ v ∈ cs, v.oneCell' = true)
    (h : ∀ w', w'.heap[g]? = some (.cells cs.toArray t (0, 0)) → w.grownBy w' (some g) → w'.heap.size = w.heap.size → wpList P ops Q rest (a.put o.dst (goInt n)) w') :
    wpList P ops Q (o :: rest) a w := by
  refine wpList_plain hgd fun K hK => ?_
  have hrun := run_copy_whole (P := P) w dT sT o.type elem g n dCap ad sCap cur t cs size hu hsz hg hl hcur hsrc h1
  unfold Oper.wp
  simp [execOp, ho, resolve, invoke, builtin, hd, hs, hrun, Result.andThen]
  exact hK _ _ (h _ (setRow_heap w g _ _ t _ hg) ⟨rfl, rfl, rfl, by simp [World.setRow], fun k _ hk => setRow_other w g k _ (fun e => hk (by rw [e]))⟩ (by simp [World.setRow]))

/-- the same, of rows of pairs -/
theorem wpList_copy_pairs {P : Program} {w : World} {ops : Array Oper} {rest : List Oper} {o : Oper} {a : Act} {Q : Exit → Act → World → Prop} (hgd : o.guard = none) (d s : Operand) (dT sT : TypeId)
    (ho : o.op = .call { callee := .builtin .copy, args := #[d, s], argTypes := #[dT, sT] }) (hu : P.underlying dT = some (.slice 44)) (hsz : (P.info? 44).map (·.size) = some 2)
    (g n dCap f sCap : Nat) (hd : a.eval d = .slice (some ⟨g, 0, none⟩) n dCap) (hs : a.eval s = .slice (some ⟨f, 0, none⟩) n sCap)
    (A B A' B' : Nat → Int) (hg : RowIs w g n A' B') (hf : RowIs w f n A B) 
    (h : ∀ w', RowIs w' g n A B → w.grownBy w' (some g) → w'.heap.size = w.heap.size → wpList P ops Q rest (a.put o.dst (goInt n)) w') :
    wpList P ops Q (o :: rest) a w := by
  obtain ⟨cur, h1, h2, h3⟩ := hg
  obtain ⟨src, s1, s2, s3⟩ := hf
  refine wpList_copy_whole hgd d s dT sT ho 44 hu 2 hsz g n dCap ⟨f, 0, none⟩ sCap hd hs cur 44 h1 src.toList (by simpa using s2) h2 ?_ ?_ ?_
  · intro j v hj
    rw [Addr.add_lit, Nat.zero_add, cell_of_row w f j src 44 _ s1]
    simpa using hj
  · intro v hv
    obtain ⟨i, hi, rfl⟩ := List.getElem_of_mem hv
    simp at hi
    obtain ⟨e1, e2⟩ := s3 (i / 2) (by omega)
    have : i = i / 2 * 2 ∨ i = i / 2 * 2 + 1 := by omega
    rcases this with e | e
    · rw [← e, Array.getElem?_eq_getElem hi] at e1
      simp at e1
      simp [e1, Value.oneCell']
    · rw [← e, Array.getElem?_eq_getElem hi] at e2
      simp at e2
      simp [e2, Value.oneCell']
  · intro w' hw' hgr hsz'
    exact h w' ⟨src, by simpa using hw', s2, s3⟩ hgr hsz'
end Go.Proofs.Ybulkefsm
