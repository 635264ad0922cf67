import Derived.Test.YbulkefryB3
import Derived.Test.YbulkefryS1
namespace Go.Proofs.Ybulkefry
open Go.RowKit

theorem info37 : (Yba.prog.info? 37).map (fun i => (i.zero, i.size, i.bytes)) = some (some (.agg #[.int .i64 0, .int .i64 0, .int .i64 0, .int .i64 0, .int .i64 0, .int .i64 0, .int .i64 0, .int .u64 0, .int .i32 0, .int .i32 0, .int .i32 0]), 11, 80) := by kernel_rfl

/-- the nodes and the variable that holds their slice -/
structure Nds (w : World) (S G N k : Nat) (nd : Nat → Nat → Int) : Prop where
  var : w.heap[S]? = some (.cells #[.slice (some ⟨G, 0, none⟩) k N] 29 (0, 0))
  row : NodesAt w G N N nd

/-- one number of one node is written -/
def upd (nd : Nat → Nat → Int) (k s : Nat) (v : Int) : Nat → Nat → Int := fun j t => if j = k ∧ t = s then v else nd j t
theorem NodesAt.set {w : World} {G N : Nat} {nd : Nat → Nat → Int} (h : NodesAt w G N N nd) (k s : Nat) (hk : k < N) (hs : s < 11) (v : Int) : NodesAt (w.setCell ⟨G, k * 11 + s, none⟩ (.int (kd s) v)) G N N (upd nd k s v) := by
  obtain ⟨cur, h, hz, hc⟩ := h
  refine ⟨_, heap_setCell_at h _, by simpa using hz, fun j hj t ht => ?_⟩
  rw [Array.getElem?_setIfInBounds]
  unfold upd
  by_cases e : j = k ∧ t = s
  · obtain ⟨rfl, rfl⟩ := e
    rw [if_pos rfl, if_pos (by omega), if_pos ⟨rfl, rfl⟩]
  · rw [if_neg (by omega), if_neg e]
    exact hc j hj t ht


/-- the eleven cells of node k are written -/
def setW (w : World) (G k : Nat) (ld rmc own : Int) (m : Nat) (par : Int) : World :=
  (((((((((((w.setCell ⟨G, k * 11, none⟩ (.int .i64 ld)).setCell ⟨G, k * 11 + 1, none⟩ (.int .i64 rmc)).setCell ⟨G, k * 11 + 2, none⟩ (.int .i64 own)).setCell ⟨G, k * 11 + 3, none⟩ (.int .i64 0)).setCell
    ⟨G, k * 11 + 4, none⟩ (.int .i64 0)).setCell ⟨G, k * 11 + 5, none⟩ (.int .i64 0)).setCell ⟨G, k * 11 + 6, none⟩ (.int .i64 0)).setCell ⟨G, k * 11 + 7, none⟩ (.int .u64 m)).setCell ⟨G, k * 11 + 8, none⟩ (.int .i32 0)).setCell
    ⟨G, k * 11 + 9, none⟩ (.int .i32 0)).setCell ⟨G, k * 11 + 10, none⟩ (.int .i32 par))
theorem setW_size (w : World) (G k : Nat) (ld rmc own : Int) (m : Nat) (par : Int) : (setW w G k ld rmc own m par).heap.size = w.heap.size := by simp [setW, World.setCell]
theorem setW_other (w : World) (G k : Nat) (ld rmc own : Int) (m : Nat) (par : Int) (j : Nat) (hj : j ≠ G) : (setW w G k ld rmc own m par).heap[j]? = w.heap[j]? := by
  unfold setW
  rw [Below.heap_setCell _ _ _ _ hj, Below.heap_setCell _ _ _ _ hj, Below.heap_setCell _ _ _ _ hj, Below.heap_setCell _ _ _ _ hj, Below.heap_setCell _ _ _ _ hj, Below.heap_setCell _ _ _ _ hj, Below.heap_setCell _ _ _ _ hj, Below.heap_setCell _ _ _ _ hj, Below.heap_setCell _ _ _ _ hj, Below.heap_setCell _ _ _ _ hj, Below.heap_setCell _ _ _ _ hj]
theorem setW_os (w : World) (G k : Nat) (ld rmc own : Int) (m : Nat) (par : Int) : (setW w G k ld rmc own m par).os = w.os ∧ (setW w G k ld rmc own m par).tape = w.tape ∧ (setW w G k ld rmc own m par).output = w.output := by
  have h : Kept (fun j => j = G) w (setW w G k ld rmc own m par) := by
    unfold setW
    exact ((((((((((((Kept.refl (fun j => j = G) w).setCell (p := ⟨G, k * 11, none⟩) (.inl rfl) _).setCell (p := ⟨G, k * 11 + 1, none⟩) (.inl rfl) _).setCell (p := ⟨G, k * 11 + 2, none⟩) (.inl rfl) _).setCell (p := ⟨G, k * 11 + 3, none⟩) (.inl rfl) _).setCell (p := ⟨G, k * 11 + 4, none⟩) (.inl rfl) _).setCell (p := ⟨G, k * 11 + 5, none⟩) (.inl rfl) _).setCell (p := ⟨G, k * 11 + 6, none⟩) (.inl rfl) _).setCell (p := ⟨G, k * 11 + 7, none⟩) (.inl rfl) _).setCell (p := ⟨G, k * 11 + 8, none⟩) (.inl rfl) _).setCell (p := ⟨G, k * 11 + 9, none⟩) (.inl rfl) _).setCell (p := ⟨G, k * 11 + 10, none⟩) (.inl rfl) _)
  exact ⟨h.os, h.tape, h.output⟩
theorem setW_row {w : World} {G N : Nat} {nd : Nat → Nat → Int} (h : NodesAt w G N N nd) {k : Nat} (hk : k < N) (ld rmc own : Int) (m : Nat) (par : Int) :
    ∃ nd3, NodesAt (setW w G k ld rmc own m par) G N N nd3 ∧ (∀ j, j ≠ k → ∀ t, nd3 j t = nd j t) ∧ nd3 k 0 = ld ∧ nd3 k 1 = rmc ∧ nd3 k 2 = own := by
  have r := ((((((((((h.set k 0 hk (by omega) ld).set k 1 hk (by omega) rmc).set k 2 hk (by omega) own).set k 3 hk (by omega) 0).set k 4 hk (by omega) 0).set k 5 hk (by omega) 0).set k 6 hk (by omega) 0).set k 7 hk (by omega) m).set k 8 hk (by omega) 0).set k 9 hk (by omega) 0).set k 10 hk (by omega) par
  exact ⟨_, r, fun j hj t => by simp [upd, hj], by simp [upd], by simp [upd], by simp [upd]⟩

/-- two new blocks behind a store -/
def twoW (W : World) (S : Nat) (v : Value) (o1 o2 : Obj) : World := (((W.setCell ⟨S, 0, none⟩ v).alloc o1).alloc o2).drew
theorem twoW_size (W : World) (S : Nat) (v : Value) (o1 o2 : Obj) : (twoW W S v o1 o2).heap.size = W.heap.size + 2 := by
  show ((((W.setCell ⟨S, 0, none⟩ v).alloc o1).alloc o2)).heap.size = _
  simp [World.setCell]
theorem twoW_old (W : World) (S : Nat) (v : Value) (o1 o2 : Obj) (j : Nat) (hj : j < W.heap.size) : (twoW W S v o1 o2).heap[j]? = (W.setCell ⟨S, 0, none⟩ v).heap[j]? := by
  show ((((W.setCell ⟨S, 0, none⟩ v).alloc o1).alloc o2)).heap[j]? = _
  rw [Go.heap_alloc_old _ _ (by simp [World.setCell]; omega), Go.heap_alloc_old _ _ (by simp [World.setCell]; omega)]
theorem twoW_new (W : World) (S : Nat) (v : Value) (cs : Array Value) (t : TypeId) (o2 : Obj) : (twoW W S v (.cells cs t) o2).heap[W.heap.size]? = some (.cells cs t (0, 0)) := by
  show ((((W.setCell ⟨S, 0, none⟩ v).alloc (.cells cs t)).alloc o2)).heap[W.heap.size]? = _
  rw [Go.heap_alloc_old _ _ (by simp [World.setCell])]
  have := heap_alloc_new (W.setCell ⟨S, 0, none⟩ v) (.cells cs t)
  have e : (W.setCell ⟨S, 0, none⟩ v).heap.size = W.heap.size := by simp [World.setCell]
  rwa [e] at this

/-- memory behind 'append(*nodes, ..)' -/
def appW (w : World) (S G N k : Nat) (ld rmc own : Int) (m : Nat) (par : Int) (vc : Bool) : World :=
  twoW (setW w G k ld rmc own m par) S (.slice (some ⟨G, 0, none⟩) (k + 1) N) (.cells #[.int .i32 ld, .int .i32 rmc, .bool vc] 25) (.cells #[.int .i64 ld, .int .i64 rmc, .int .i64 own, .int .i64 0, .int .i64 0, .int .i64 0, .int .i64 0, .int .u64 m, .int .i32 0, .int .i32 0, .int .i32 par] 37)

theorem twoW_facts {w W : World} {S G N k : Nat} {nd nd3 : Nat → Nat → Int} (h : Nds w S G N k nd) (nSG : S ≠ G) (r : NodesAt W G N N nd3) (hz : W.heap.size = w.heap.size) (ho : ∀ j, j ≠ G → W.heap[j]? = w.heap[j]?) (os : W.os = w.os ∧ W.tape = w.tape ∧ W.output = w.output) (cs : Array Value) (o2 : Obj) :
    Nds (twoW W S (.slice (some ⟨G, 0, none⟩) (k + 1) N) (.cells cs 25) o2) S G N (k + 1) nd3 ∧ Kept (fun j => j = S ∨ j = G) w (twoW W S (.slice (some ⟨G, 0, none⟩) (k + 1) N) (.cells cs 25) o2) ∧
      (twoW W S (.slice (some ⟨G, 0, none⟩) (k + 1) N) (.cells cs 25) o2).heap[w.heap.size]? = some (.cells cs 25 (0, 0)) ∧ w.heap.size + 2 ≤ (twoW W S (.slice (some ⟨G, 0, none⟩) (k + 1) N) (.cells cs 25) o2).heap.size := by
  have hS := (Array.getElem?_eq_some_iff.1 h.var).1
  have hG := h.row.lt
  have eS := ho S nSG
  refine ⟨⟨?_, r.same ?_⟩, ⟨os.1, os.2.1, os.2.2, ?_, fun j hj hx => ?_⟩, ?_, ?_⟩
  · rw [twoW_old _ _ _ _ _ _ (by omega)]
    exact (heap_setCell_at (eS.trans h.var) _).trans rfl
  · rw [twoW_old _ _ _ _ _ _ (by omega), Below.heap_setCell _ _ _ _ nSG.symm]
  · rw [twoW_size]; omega
  · rw [twoW_old _ _ _ _ _ _ (by omega), Below.heap_setCell _ _ _ _ (fun e => hx (.inl e)), ho j (fun e => hx (.inr e))]
  · rw [← hz]
    exact twoW_new _ _ _ _ _ _
  · rw [twoW_size]; omega

theorem appW_facts {w : World} {S G N k : Nat} {nd : Nat → Nat → Int} (h : Nds w S G N k nd) (nSG : S ≠ G) (hk : k < N) (ld rmc own : Int) (m : Nat) (par : Int) (vc : Bool) :
    ∃ nd3, (∀ j, j ≠ k → ∀ t, nd3 j t = nd j t) ∧ nd3 k 0 = ld ∧ nd3 k 1 = rmc ∧ nd3 k 2 = own ∧ Nds (appW w S G N k ld rmc own m par vc) S G N (k + 1) nd3 ∧ Kept (fun j => j = S ∨ j = G) w (appW w S G N k ld rmc own m par vc) ∧
      (appW w S G N k ld rmc own m par vc).heap[w.heap.size]? = some (.cells #[.int .i32 ld, .int .i32 rmc, .bool vc] 25 (0, 0)) ∧ w.heap.size + 2 ≤ (appW w S G N k ld rmc own m par vc).heap.size := by
  obtain ⟨nd3, r, r1, r2, r3, r4⟩ := setW_row h.row hk ld rmc own m par
  exact ⟨nd3, r1, r2, r3, r4, twoW_facts h nSG r (setW_size w G k ld rmc own m par) (setW_other w G k ld rmc own m par) (setW_os w G k ld rmc own m par) _ _⟩

theorem range_split (d : Nat → Int × Int × Bool) (q r : Nat) : (List.range (q + 1 + r)).map d = (List.range q).map d ++ d q :: (List.range r).map (fun i => d (q + 1 + i)) := by
  rw [List.range_add, List.range_succ]
  simp [List.map_map, Function.comp_def]
end Go.Proofs.Ybulkefry
