import Derived.Test.YbulkefryB1
namespace Go.Proofs.Ybulkefry
open Go.RowKit

/-- the nodes' block: room for n nodes, the first k hold the numbers nd -/
def NodesAt (w : World) (G N k : Nat) (nd : Nat → Nat → Int) : Prop :=
  ∃ cur : Array Value, w.heap[G]? = some (.cells cur 37 (0, 0)) ∧ cur.size = N * 11 ∧ ∀ j, j < k → ∀ t, t < 11 → cur[j * 11 + t]? = some (.int (kd t) (nd j t))
theorem NodesAt.cell {w : World} {G N k : Nat} {nd : Nat → Nat → Int} (h : NodesAt w G N k nd) {j t : Nat} (hj : j < k) (ht : t < 11) : w.cell? ⟨G, j * 11 + t, none⟩ = some (.int (kd t) (nd j t)) := by
  obtain ⟨cur, h, hs, hc⟩ := h
  rw [cell_of_row w G _ cur 37 _ h]
  exact hc j hj t ht
theorem NodesAt.lt {w : World} {G N k : Nat} {nd : Nat → Nat → Int} (h : NodesAt w G N k nd) : G < w.heap.size := by
  obtain ⟨cur, h, _⟩ := h
  exact (Array.getElem?_eq_some_iff.1 h).1
theorem NodesAt.same {w w' : World} {G N k : Nat} {nd : Nat → Nat → Int} (h : NodesAt w G N k nd) (e : w'.heap[G]? = w.heap[G]?) : NodesAt w' G N k nd := by
  obtain ⟨cur, h, r⟩ := h
  exact ⟨cur, e.trans h, r⟩

theorem setCell_id {w : World} {b i : Nat} {v : Value} {c : Array Value} {t : TypeId} {fr : Nat × Nat} (h : w.heap[b]? = some (.cells c t fr)) (hi : c[i]? = some v) : w.setCell ⟨b, i, none⟩ v = w := by
  have e : (w.setCell ⟨b, i, none⟩ v).heap = w.heap := by
    apply Array.ext_getElem?
    intro k
    by_cases hk : k = b
    · subst hk
      rw [heap_setCell_at h, h]
      congr 2
      apply Array.ext_getElem?
      intro m
      rw [Array.getElem?_setIfInBounds]
      split
      · rename_i hm
        subst hm
        obtain ⟨hlt, _⟩ := Array.getElem?_eq_some_iff.1 hi
        rw [hi, if_pos hlt]
      · rfl
    · exact Below.heap_setCell _ _ _ _ hk
  show (⟨(w.setCell ⟨b, i, none⟩ v).heap, _, _, _, _⟩ : World) = w
  rw [e]

set_option maxHeartbeats 1000000 in
theorem settle (w : World) (PB : Nat) (pc : Array Value) (hp : w.heap[PB]? = some (.cells pc 50 (0, 0))) (hi : pc[13]? = some (.slice none 0 0)) :
    Calls Yba.prog 29 #[.pointer (some ⟨PB, 0, none⟩)] w fun e w' => e = .returned (.tuple #[]) ∧ w = w' := by
  have h : w.cell? ⟨PB, 13, none⟩ = some (.slice none 0 0) := by rw [cell_of_row w PB 13 pc 50 _ hp, hi]
  have hf : w.frozen? ⟨PB, 13, none⟩ = false := by simp [World.frozen?, hp]
  have HS := hide (setCell_id hp hi)
  clear hp hi
  go_enter Yba.func29, Yba.ntmps29
  go_wp2
  go_loopw [9] (fun i wr => i = .int .i64 0 ∧ w = wr) (fun _ _ => 0)
  case atStart => exact ⟨rfl, rfl⟩
  case round =>
    obtain ⟨rfl, rfl⟩ := hrel
    go_wp2
    go_end0
    exact ⟨rfl, HS.out.symm⟩

/-- how far the walk down the tree has yet to go -/
def ms (K : Nat) (v : Value) : Nat := if intOf v = 0 then 0 else K + 1 - (intOf v).toNat
end Go.Proofs.Ybulkefry
