import Derived.Test.YbulkefsmRows
import Derived.WalkKit
import Derived.WalkSpells
import Derived.WalkLawsBesides
import Derived.Below
import Derived.BigQuiet
import Derived.Deep.QuietTactic
namespace Go.Proofs.Ybulkefsm
open Go.RowKit

theorem hide {p : Prop} (h : p) : Hid p := h

/-- the greatest of the numbers, and of 0 -/
def mx (l : List Int) : Int := l.foldl max 0
theorem mx_snoc (l : List Int) (x : Int) : mx (l ++ [x]) = max (mx l) x := by simp [mx, List.foldl_append]

set_option maxHeartbeats 400000 in
theorem maxRes (sz : Int) (g n : Nat) (rd rs : Nat → Int) (w : World) (hn : n ≤ 1048576) 
    (hc : ∀ j, j < n → w.cell? ⟨g, j * 2, none⟩ = some (.int .i64 (rd j)) ∧ w.cell? ⟨g, j * 2 + 1, none⟩ = some (.int .i64 (rs j))) :
    Calls Yba.prog 7 #[.agg #[.int .i64 sz, .slice (some ⟨g, 0, none⟩) n n]] w fun e w' =>
      e = .returned (.int .i64 (mx ((List.range n).map rs))) ∧ Below w.heap.size w w' := by
  go_enter Yba.func7, Yba.ntmps7
  go_wp2
  go_loopw [3, 9] (fun m i wr => ∃ k : Nat, k ≤ n ∧ i = .int .i64 k ∧ m = .int .i64 (mx ((List.range k).map rs)) ∧ Below w.heap.size w wr) (fun _ i _ => n - (intOf i).toNat)
  case atStart => exact ⟨0, Nat.zero_le _, rfl, rfl, (Below.refl _ _).alloc (Nat.le_refl _) _⟩
  case round =>
    obtain ⟨k, hk, rfl, rfl, hb⟩ := hrel
    by_cases hlt : k < n
    · obtain ⟨h0, h1⟩ := hc k (by omega)
      have hg := World.block_lt_of_cell? _ _ h0
      rw [← hb.cell (p := ⟨g, k * 2, none⟩) hg] at h0
      rw [← hb.cell (p := ⟨g, k * 2 + 1, none⟩) hg] at h1
      have hz : w.heap.size ≤ wr.heap.size := hb.size
      have HS : Hid (mx ((List.range (k + 1)).map rs) = max (mx ((List.range k).map rs)) (rs k)) := by
        show _ = _
        rw [List.range_succ, List.map_append]; exact mx_snoc _ _
      clear hc
      generalize mx ((List.range k).map rs) = m at *
      go_wp2
      go_roundw
      case rel => 
        refine ⟨k + 1, by omega, by go_num, ?_, ?_⟩
        · rw [HS.out]; congr 1; rw [Int.max_def]; split <;> split <;> omega
        · exact hb.alloc hz _
      case measure => simp [intOf]; omega
    · go_wp2
      go_ret
      obtain rfl : k = n := by omega
      exact ⟨rfl, hb⟩
end Go.Proofs.Ybulkefsm
