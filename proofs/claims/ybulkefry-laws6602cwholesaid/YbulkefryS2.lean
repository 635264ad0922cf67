import Derived.Test.YbulkefryS1
namespace Go.Proofs.Ybulkefry
open Go.Shelf Go.RowKit Go.Lib

theorem insNil (fv : Value) (w : World) : Calls Yba.prog 19 #[.slice none 0 0, .int .i64 0, .int .i64 0, fv] w fun e w' => e = .returned (.tuple #[]) ∧ w = w' := by
  go_enter Yba.func19, Yba.ntmps19
  go_wp2
  refine wp_loop_rounds 1 ?_
  rw [rounds_succ]
  go_wp2
  go_end0
  exact ⟨rfl, rfl⟩

theorem pdqNil (fv : Value) (l : Int) (w : World) : Calls Yba.prog 12 #[.slice none 0 0, .int .i64 0, .int .i64 0, .int .i64 l, fv] w fun e w' => e = .returned (.tuple #[]) ∧ w = w' := by
  have h := insNil fv w
  go_enter Yba.func12, Yba.ntmps12
  go_wp2
  refine wp_loop_rounds 1 ?_
  rw [rounds_succ]
  go_wp2_with (go_at_call 19; refine h.mono ?_; rintro e w' ⟨rfl, rfl⟩)
  (try simp only [Exit.inBlock, Exit.then]); first | (refine bodyPost_ret (results_none rfl _ _ _) rfl ?_) | (refine bodyPost_end (results_none rfl _ _ _) rfl ?_)
  exact ⟨rfl, rfl⟩

theorem sortNil (fv : Value) (w : World) : Calls Yba.prog 5 #[.slice none 0 0, fv] w fun e w' => e = .returned (.tuple #[]) ∧ w = w' := by
  have hl : Calls Yba.prog 13 #[.int .u64 0] w fun e w' => e = .returned (.int .i64 (Lib.bitLen 0 : Nat)) ∧ w' = w := Any.bits_Len (SlLaysF0.n15.bits (P := Yba.prog) (ρ := sortC_ren) { sortC with }) 0 w (by omega) (by omega)
  have hp := fun l => pdqNil fv l w
  generalize ((Lib.bitLen 0 : Nat) : Int) = L at hl
  go_enter Yba.func5, Yba.ntmps5
  go_wp2_with (first | (go_at_call 13; refine hl.mono ?_; rintro e w' ⟨rfl, rfl⟩) | (go_at_call 12; refine (hp _).mono ?_; rintro e w' ⟨rfl, rfl⟩))
  go_end0
  exact ⟨rfl, rfl⟩
end Go.Proofs.Ybulkefry
