import Derived.Test.YbulkefryB4
namespace Go.Proofs.Ybulkefry
open Go.RowKit

set_option maxRecDepth 100000 in
set_option maxHeartbeats 8000000 in
theorem mrw (w : World) (PB C G K N : Nat) (clk root x : Int) (nd : Nat → Nat → Int) (d : List (Int × Int × Bool)) (f : Nat) (hP : PoolIs w PB C G K N clk root)
    (hN : NodesAt w G N K nd) (hT : Tr nd K f 1 root d) (hS : d.Pairwise (fun a b => a.1 ≤ b.1))
    (b1 : -2147483648 ≤ clk ∧ clk ≤ 2147483647) (bd : ∀ c ∈ d, -2147483648 ≤ c.2.1 ∧ c.2.1 ≤ 2147483647) (l2 : PB < w.heap.size) (l3 : C < w.heap.size) :
    Calls Yba.prog 10 #[.pointer (some ⟨PB, 0, none⟩), .int .i64 x] w fun e w' =>
      ∃ rm ok, e = .returned (.tuple #[.int .i64 rm, .bool ok]) ∧ Best (fun r => clk ≤ x ∧ El x clk (fun c => c ∈ d) r) rm ok ∧ Below w.heap.size w w' := by
  have hG := hN.lt
  have HW : Hid (Calls Yba.prog 15 #[.pointer (some ⟨PB, 0, none⟩), .int .i64 x, .func (.func 16) #[] #[.pointer (some ⟨w.heap.size, 0, none⟩), .pointer (some ⟨w.heap.size + 2, 0, none⟩), .pointer (some ⟨w.heap.size + 1, 0, none⟩)]] (((w.alloc (.cells #[.pointer (some ⟨PB, 0, none⟩)] 38)).alloc (.cells #[.int .i64 0] 2)).alloc (.cells #[.bool false] 4)) fun e w' =>
      e = .returned (.tuple #[]) ∧ (∃ rm ok, Best (fun r => clk ≤ x ∧ El x clk (fun c => c ∈ d) r) rm ok ∧ Acc w' (w.heap.size + 1) (w.heap.size + 2) rm ok) ∧ Kept (fun k => k = w.heap.size + 1 ∨ k = w.heap.size + 2) (((w.alloc (.cells #[.pointer (some ⟨PB, 0, none⟩)] 38)).alloc (.cells #[.int .i64 0] 2)).alloc (.cells #[.bool false] 4)) w') := by
    have hb : ∀ k, k < w.heap.size → (((w.alloc (.cells #[.pointer (some ⟨PB, 0, none⟩)] 38)).alloc (.cells #[.int .i64 0] 2)).alloc (.cells #[.bool false] 4)).heap[k]? = w.heap[k]? := fun k hk => by
      rw [Go.heap_alloc_old _ _ (by simp; omega), Go.heap_alloc_old _ _ (by simp; omega), Go.heap_alloc_old _ _ hk]
    obtain ⟨⟨pc, hp, hpr⟩, hck⟩ := hP
    refine within _ PB C G w.heap.size (w.heap.size + 1) (w.heap.size + 2) K N clk root x nd d f ⟨⟨pc, (hb PB l2).trans hp, hpr⟩, (World.cell?_of_block (a := ⟨C, 0, none⟩) (hb C l3)).trans hck⟩ ?_ (hN.same (hb G hG)) hT hS b1 bd ⟨?_, ?_⟩ (by omega) (by omega) (by omega) (by omega) (by omega) (by omega) (by omega) (by omega) (by omega) (by simp; omega) (by simp; omega) (by simp; omega)
    · rw [cell_of_row _ w.heap.size 0 #[.pointer (some ⟨PB, 0, none⟩)] 38 (0, 0) (by rw [Go.heap_alloc_old _ _ (by simp; omega), Go.heap_alloc_old _ _ (by simp)]; exact heap_alloc_new w _)]
      rfl
    · rw [Go.heap_alloc_old _ _ (by simp)]
      have := heap_alloc_new (w.alloc (.cells #[.pointer (some ⟨PB, 0, none⟩)] 38)) (.cells #[.int .i64 0] 2)
      simpa using this
    · have := heap_alloc_new ((w.alloc (.cells #[.pointer (some ⟨PB, 0, none⟩)] 38)).alloc (.cells #[.int .i64 0] 2)) (.cells #[.bool false] 4)
      simpa using this
  clear hP hN hT hS bd
  go_enter Yba.func10, Yba.ntmps10
  go_wp2_with (go_at_call 15; refine HW.out.mono ?_; rintro e w' ⟨rfl, ⟨rm, ok, hb, ha⟩, hk⟩; have HB := hide hb; have HA := hide ha; have HK := hide hk; clear hb ha hk; have c1 : w'.cell? ⟨w.heap.size + 1, 0, none⟩ = some (.int .i64 rm) := (by rw [cell_of_row w' (w.heap.size + 1) 0 _ 2 _ HA.out.rb]; rfl); have c2 : w'.cell? ⟨w.heap.size + 2, 0, none⟩ = some (.bool ok) := (by rw [cell_of_row w' (w.heap.size + 2) 0 _ 4 _ HA.out.ob]; rfl); have f1 : w'.frozen? ⟨w.heap.size + 1, 0, none⟩ = false := (by simp [World.frozen?, HA.out.rb]); have f2 : w'.frozen? ⟨w.heap.size + 2, 0, none⟩ = false := (by simp [World.frozen?, HA.out.ob]))
  go_region
  go_wp2
  refine bodyPost_ret (by simp [results, Yba.results10, go_sem, c1, c2]; try rfl) rfl ?_
  have hbw : Below w.heap.size w w' := ((((Below.refl w.heap.size w).alloc (Nat.le_refl _) _).alloc (by simp) _).alloc (by simp; omega) _).trans (HK.out.below (by simp; omega) (fun k hk => by omega))
  exact ⟨rm, ok, rfl, HB.out, ((hbw.setCell (p := ⟨w.heap.size + 1, 0, none⟩) (by simp) _).setCell (p := ⟨w.heap.size + 1 + 1, 0, none⟩) (by simp; omega) _).drew⟩
end Go.Proofs.Ybulkefry
