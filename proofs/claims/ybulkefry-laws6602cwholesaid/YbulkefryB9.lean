import Derived.Test.YbulkefryB3
namespace Go.Proofs.Ybulkefry
open Go.RowKit

set_option maxRecDepth 100000 in
set_option maxHeartbeats 4000000 in
theorem equalN (w : World) (b1 b2 K c1 c2 : Nat) (nd : Nat → Nat → Int) (hK : K ≤ 65537)
    (h1 : ∀ j, j < K → ∀ t, t < 11 → w.cell? ⟨b1, j * 11 + t, none⟩ = some (.int (kd t) (nd j t))) (h2 : ∀ j, j < K → ∀ t, t < 11 → w.cell? ⟨b2, j * 11 + t, none⟩ = some (.int (kd t) (nd j t))) :
    Calls Yba.prog 11 #[.slice (some ⟨b1, 0, none⟩) K c1, .slice (some ⟨b2, 0, none⟩) K c2] w fun e w' => e = .returned (.bool true) ∧ ∃ q, w' = w.drewN q := by
  have H1 := hide h1
  have H2 := hide h2
  clear h1 h2
  go_enter Yba.func11, Yba.ntmps11
  go_wp2
  go_loopw [13] (fun i wr => ∃ j q : Nat, j ≤ K ∧ i = .int .i64 j ∧ wr = w.drewN q) (fun i _ => K - (intOf i).toNat)
  case atStart => exact ⟨0, 0, Nat.zero_le _, rfl, rfl⟩
  case round =>
    obtain ⟨j, q, hj, rfl, rfl⟩ := hrel
    by_cases hlt : j < K
    · have x0 : w.cell? ⟨b1, j * 11, none⟩ = some (.int .i64 (nd j 0)) := H1.out j hlt 0 (by omega)
      have x1 : w.cell? ⟨b1, j * 11 + 1, none⟩ = some (.int .i64 (nd j 1)) := H1.out j hlt 1 (by omega)
      have x2 : w.cell? ⟨b1, j * 11 + 2, none⟩ = some (.int .i64 (nd j 2)) := H1.out j hlt 2 (by omega)
      have x3 : w.cell? ⟨b1, j * 11 + 3, none⟩ = some (.int .i64 (nd j 3)) := H1.out j hlt 3 (by omega)
      have x4 : w.cell? ⟨b1, j * 11 + 4, none⟩ = some (.int .i64 (nd j 4)) := H1.out j hlt 4 (by omega)
      have x5 : w.cell? ⟨b1, j * 11 + 5, none⟩ = some (.int .i64 (nd j 5)) := H1.out j hlt 5 (by omega)
      have x6 : w.cell? ⟨b1, j * 11 + 6, none⟩ = some (.int .i64 (nd j 6)) := H1.out j hlt 6 (by omega)
      have x7 : w.cell? ⟨b1, j * 11 + 7, none⟩ = some (.int .u64 (nd j 7)) := H1.out j hlt 7 (by omega)
      have x8 : w.cell? ⟨b1, j * 11 + 8, none⟩ = some (.int .i32 (nd j 8)) := H1.out j hlt 8 (by omega)
      have x9 : w.cell? ⟨b1, j * 11 + 9, none⟩ = some (.int .i32 (nd j 9)) := H1.out j hlt 9 (by omega)
      have x10 : w.cell? ⟨b1, j * 11 + 10, none⟩ = some (.int .i32 (nd j 10)) := H1.out j hlt 10 (by omega)
      have y0 : w.cell? ⟨b2, j * 11, none⟩ = some (.int .i64 (nd j 0)) := H2.out j hlt 0 (by omega)
      have y1 : w.cell? ⟨b2, j * 11 + 1, none⟩ = some (.int .i64 (nd j 1)) := H2.out j hlt 1 (by omega)
      have y2 : w.cell? ⟨b2, j * 11 + 2, none⟩ = some (.int .i64 (nd j 2)) := H2.out j hlt 2 (by omega)
      have y3 : w.cell? ⟨b2, j * 11 + 3, none⟩ = some (.int .i64 (nd j 3)) := H2.out j hlt 3 (by omega)
      have y4 : w.cell? ⟨b2, j * 11 + 4, none⟩ = some (.int .i64 (nd j 4)) := H2.out j hlt 4 (by omega)
      have y5 : w.cell? ⟨b2, j * 11 + 5, none⟩ = some (.int .i64 (nd j 5)) := H2.out j hlt 5 (by omega)
      have y6 : w.cell? ⟨b2, j * 11 + 6, none⟩ = some (.int .i64 (nd j 6)) := H2.out j hlt 6 (by omega)
      have y7 : w.cell? ⟨b2, j * 11 + 7, none⟩ = some (.int .u64 (nd j 7)) := H2.out j hlt 7 (by omega)
      have y8 : w.cell? ⟨b2, j * 11 + 8, none⟩ = some (.int .i32 (nd j 8)) := H2.out j hlt 8 (by omega)
      have y9 : w.cell? ⟨b2, j * 11 + 9, none⟩ = some (.int .i32 (nd j 9)) := H2.out j hlt 9 (by omega)
      have y10 : w.cell? ⟨b2, j * 11 + 10, none⟩ = some (.int .i32 (nd j 10)) := H2.out j hlt 10 (by omega)
      go_wp2
      go_quiet (fail)
      go_wp2
      exact ⟨⟨j + 1, _, by omega, by go_num, rfl⟩, by simp [intOf]; omega⟩
    · have e : j = K := by omega
      subst e
      go_wp2
      go_ret
      exact ⟨rfl, q, rfl⟩
end Go.Proofs.Ybulkefry
