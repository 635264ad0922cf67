import Derived.Test.YbulkefryB1
import Derived.Test.YbulkefryGen
namespace Go.Proofs.Ybulkefry
open Go.RowKit

theorem info25 : (Yba.prog.info? 25).map (fun i => (i.zero, i.size, i.bytes)) = some (some (.agg #[.int .i32 0, .int .i32 0, .bool false]), 3, 12) := by kernel_rfl

theorem owns_empty (w : World) (e : TypeId) (size : Nat) : (w.alloc (.cells #[] e)).ownsRow w.heap.size e size (.slice (some ⟨w.heap.size, 0, none⟩) 0 0) 0 [] :=
  ⟨by simp, .inr ⟨w.heap.size, 0, #[], rfl, Nat.le_refl _, heap_alloc_new w _, by omega, by unfold maxLen; omega, by simp, by simp⟩⟩

set_option maxHeartbeats 1000000 in
theorem cloneC (a : Addr) (n cap : Nat) (cells : List Value) (w : World) (hl : cells.length = n * 3) (hc : ∀ j u, cells[j]? = some u → w.cell? (a.add j) = some u) (h1 : ∀ u ∈ cells, u.oneCell' = true) (hn : n ≤ 65537) :
    Calls Yba.prog 4 #[.slice (some a) n cap] w fun e w' => ∃ v', e = .returned v' ∧ w'.ownsRow w.heap.size 25 3 v' n cells ∧ v' ≠ .slice none 0 0 ∧ Below w.heap.size w w' := by
  obtain ⟨i0, hi0, hz0, e1, e2⟩ := info_parts info25
  have hn1 := fun w => Lib.run_eql_slice_nil (P := Yba.prog) w 22 25 (some a) n cap 0 0 Yba.underlying22
  have HS : Hid (Src Yba.prog 3 22 (.slice (some a) n cap) n cells (w.alloc (.cells #[] 25))) := Src.ofSlice _ Yba.underlying22 a n cap cells hl (fun j u hj => by
    have := hc j u hj
    rw [World.cell?_alloc_lt _ _ _ (World.block_lt_of_cell? _ _ this)]
    exact this) h1
  have HO := hide (owns_empty w 25 3)
  clear hc h1 hl
  go_enter Yba.func4, Yba.ntmps4
  go_wp2_with (at_builtin; refine wpList_append_own_src _ rfl (.tmp 5) (.tmp 6) 22 22 rfl w.heap.size 25 i0 _ 3 12 Yba.underlying22 hi0 hz0 e1 e2 rfl _ 0 [] rfl HO.out _ n cells rfl HS.out (by unfold maxLen; omega) (by omega) (by simp) ?_)
  intro v' w' ho hg hnil hb
  go_wp2
  go_ret
  exact ⟨v', rfl, by simpa using ho, hnil, (((Below.refl w.heap.size w).alloc (Nat.le_refl _) (.cells #[] 25)).grown hg (by simp) (fun k hk => by cases hk; exact Nat.le_refl _))⟩
theorem info37c : (Yba.prog.info? 37).map (fun i => (i.zero, i.size, i.bytes)) = some (some (.agg #[.int .i64 0, .int .i64 0, .int .i64 0, .int .i64 0, .int .i64 0, .int .i64 0, .int .i64 0, .int .u64 0, .int .i32 0, .int .i32 0, .int .i32 0]), 11, 80) := by kernel_rfl

set_option maxHeartbeats 1000000 in
theorem cloneN (a : Addr) (n cap : Nat) (cells : List Value) (w : World) (hl : cells.length = n * 11) (hc : ∀ j u, cells[j]? = some u → w.cell? (a.add j) = some u) (h1 : ∀ u ∈ cells, u.oneCell' = true) (hn : n ≤ 65537) :
    Calls Yba.prog 9 #[.slice (some a) n cap] w fun e w' => ∃ v', e = .returned v' ∧ w'.ownsRow w.heap.size 37 11 v' n cells ∧ v' ≠ .slice none 0 0 ∧ Below w.heap.size w w' := by
  obtain ⟨i0, hi0, hz0, e1, e2⟩ := info_parts info37c
  have hn1 := fun w => Lib.run_eql_slice_nil (P := Yba.prog) w 29 37 (some a) n cap 0 0 Yba.underlying29
  have HS : Hid (Src Yba.prog 11 29 (.slice (some a) n cap) n cells (w.alloc (.cells #[] 37))) := Src.ofSlice _ Yba.underlying29 a n cap cells hl (fun j u hj => by
    have := hc j u hj
    rw [World.cell?_alloc_lt _ _ _ (World.block_lt_of_cell? _ _ this)]
    exact this) h1
  have HO := hide (owns_empty w 37 11)
  clear hc h1 hl
  go_enter Yba.func9, Yba.ntmps9
  go_wp2_with (at_builtin; refine wpList_append_own_src _ rfl (.tmp 5) (.tmp 6) 29 29 rfl w.heap.size 37 i0 _ 11 80 Yba.underlying29 hi0 hz0 e1 e2 rfl _ 0 [] rfl HO.out _ n cells rfl HS.out (by unfold maxLen; omega) (by omega) (by simp) ?_)
  intro v' w' ho hg hnil hb
  go_wp2
  go_ret
  exact ⟨v', rfl, by simpa using ho, hnil, (((Below.refl w.heap.size w).alloc (Nat.le_refl _) (.cells #[] 37)).grown hg (by simp) (fun k hk => by cases hk; exact Nat.le_refl _))⟩

theorem cloneNil (w : World) : Calls Yba.prog 4 #[.slice none 0 0] w fun e w' => e = .returned (.slice none 0 0) ∧ w = w' := by
  have hn1 := fun w => Lib.run_eql_slice_nil (P := Yba.prog) w 22 25 none 0 0 0 0 Yba.underlying22
  go_enter Yba.func4, Yba.ntmps4
  go_wp2
  go_ret
  exact ⟨rfl, rfl⟩
end Go.Proofs.Ybulkefry
