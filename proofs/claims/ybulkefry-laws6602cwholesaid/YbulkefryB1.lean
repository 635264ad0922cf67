import Derived.Test.YbulkefryRows
import Derived.Test.YbulkefryP1
import Derived.WalkKit
import Derived.WalkSpells
import Derived.WalkLawsBesides
import Derived.Below
import Derived.BigQuiet
import Derived.BigRegion
import Derived.Deep.QuietTactic
namespace Go.Proofs.Ybulkefry
open Go.RowKit

theorem hide {p : Prop} (h : p) : Hid p := h

/-- block g holds the numbers of k nodes (room for n), eleven cells each -/
def kd (t : Nat) : IntKind := if t < 7 then .i64 else if t = 7 then .u64 else .i32

/-- what the pool's own functions read of memory: the pool at PB, the clock at C -/
structure PoolAt (w : World) (PB C : Nat) (clk : Int) : Prop where
  ptr : w.cell? ⟨PB, 1, none⟩ = some (.pointer (some ⟨C, 0, none⟩))
  clk : w.cell? ⟨C, 0, none⟩ = some (.int .i64 clk)

set_option maxHeartbeats 1000000 in
theorem room (w : World) (PB C G o : Nat) (clk ld rm : Int) (hP : PoolAt w PB C clk) (h0 : w.cell? ⟨G, o, none⟩ = some (.int .i64 ld)) (h1 : w.cell? ⟨G, o + 1, none⟩ = some (.int .i64 rm))
    (b1 : -2147483648 ≤ clk ∧ clk ≤ 2147483647) (b2 : -2147483648 ≤ rm ∧ rm ≤ 2147483647) :
    Calls Yba.prog 17 #[.pointer (some ⟨PB, 0, none⟩), .pointer (some ⟨G, o, none⟩)] w fun e w' => e = .returned (.int .i64 (if ld = 0 then rm - clk else rm)) ∧ ∃ q, w' = w.drewN q := by
  obtain ⟨p1, p2⟩ := hP
  by_cases hl : ld = 0
  · subst hl
    go_enter Yba.func17, Yba.ntmps17
    go_wp2
    go_quiet (fail)
    go_wp2
    go_ret
    exact ⟨by simp, _, rfl⟩
  · go_enter Yba.func17, Yba.ntmps17
    go_wp2
    go_ret
    exact ⟨by simp, 0, rfl⟩

set_option maxHeartbeats 1000000 in
theorem mostRoom (w : World) (PB C G o : Nat) (clk mr mi : Int) (hP : PoolAt w PB C clk) (h0 : w.cell? ⟨G, o + 5, none⟩ = some (.int .i64 mr)) (h1 : w.cell? ⟨G, o + 6, none⟩ = some (.int .i64 mi))
    (b1 : -2147483648 ≤ clk ∧ clk ≤ 2147483647) (b2 : -4611686018427387904 ≤ mi ∧ mi ≤ 2147483647) :
    Calls Yba.prog 18 #[.pointer (some ⟨PB, 0, none⟩), .pointer (some ⟨G, o, none⟩)] w fun e w' => e = .returned (.int .i64 (if mr < mi - clk then mi - clk else mr)) ∧ ∃ q, w' = w.drewN q := by
  obtain ⟨p1, p2⟩ := hP
  go_enter Yba.func18, Yba.ntmps18
  go_wp2
  go_region
  go_wp2
  · go_ret
    exact ⟨rfl, 1, rfl⟩
  · go_ret
    exact ⟨rfl, 1, rfl⟩

/-- but for the blocks X, what was there is as it was -/
structure Kept (X : Nat → Prop) (w w' : World) : Prop where
  os : w'.os = w.os
  tape : w'.tape = w.tape
  output : w'.output = w.output
  size : w.heap.size ≤ w'.heap.size
  block : ∀ k, k < w.heap.size → ¬ X k → w'.heap[k]? = w.heap[k]?

section
variable {X : Nat → Prop} {a w w' : World}
theorem Kept.refl (X : Nat → Prop) (w : World) : Kept X w w := ⟨rfl, rfl, rfl, Nat.le_refl _, fun _ _ _ => rfl⟩
theorem Kept.trans {c : World} (h : Kept X a w) (k : Kept X w c) : Kept X a c :=
  ⟨k.os.trans h.os, k.tape.trans h.tape, k.output.trans h.output, Nat.le_trans h.size k.size, fun i hi hx => (k.block i (Nat.lt_of_lt_of_le hi h.size) hx).trans (h.block i hi hx)⟩
theorem Kept.alloc (h : Kept X a w) (o : Obj) : Kept X a (w.alloc o) :=
  ⟨h.os, h.tape, h.output, Nat.le_trans h.size (by simp), fun k hk hx => (Below.heap_alloc _ _ _ (Nat.lt_of_lt_of_le hk h.size)).trans (h.block k hk hx)⟩
theorem Kept.setCell (h : Kept X a w) {p : Addr} (hp : X p.block ∨ a.heap.size ≤ p.block) (u : Value) : Kept X a (w.setCell p u) :=
  ⟨h.os, h.tape, h.output, Nat.le_trans h.size (by simp [World.setCell]), fun k hk hx => (Below.heap_setCell _ _ _ _ (by
    intro e; subst e; rcases hp with hp | hp
    · exact hx hp
    · omega)).trans (h.block k hk hx)⟩
theorem Kept.drewN (h : Kept X a w) (q : Nat) : Kept X a (w.drewN q) := ⟨h.os, h.tape, h.output, h.size, h.block⟩
theorem Kept.grown {row : Option Nat} (h : Kept X a w) (hg : w.grownBy w' row) (hr : ∀ k, row = some k → X k ∨ a.heap.size ≤ k) : Kept X a w' :=
  ⟨hg.os.trans h.os, hg.tape.trans h.tape, hg.output.trans h.output, Nat.le_trans h.size hg.size, fun k hk hx => (hg.block k (Nat.lt_of_lt_of_le hk h.size) (fun e => by
    rcases hr k e.symm with h1 | h1
    · exact hx h1
    · omega)).trans (h.block k hk hx)⟩
theorem Kept.cell (h : Kept X w w') {p : Addr} (hp : p.block < w.heap.size) (hx : ¬ X p.block) : w'.cell? p = w.cell? p := World.cell?_of_block (w := w) (h.block p.block hp hx)
theorem Kept.sub {Y : Nat → Prop} (h : Kept X w w') (hxy : ∀ k, k < w.heap.size → X k → Y k) : Kept Y w w' := ⟨h.os, h.tape, h.output, h.size, fun k hk hy => h.block k hk (fun hx => hy (hxy k hk hx))⟩
theorem Kept.below {B : Nat} (h : Kept X w w') (hB : B ≤ w.heap.size) (hx : ∀ k, k < B → ¬ X k) : Below B w w' := ⟨h.os, h.tape, h.output, h.size, fun k hk => h.block k (by omega) (hx k hk)⟩
end

theorem heap_setCell_at {w : World} {r i : Nat} {cs : Array Value} {t : TypeId} {fr : Nat × Nat} (h : w.heap[r]? = some (.cells cs t fr)) (v : Value) :
    (w.setCell ⟨r, i, none⟩ v).heap[r]? = some (.cells (cs.setIfInBounds i v) t fr) := by
  simp [World.setCell, Array.getElem?_modify, h]

/-- the two variables that the closure writes -/
structure Acc (w : World) (RB OB : Nat) (rm : Int) (ok : Bool) : Prop where
  rb : w.heap[RB]? = some (.cells #[.int .i64 rm] 2 (0, 0))
  ob : w.heap[OB]? = some (.cells #[.bool ok] 4 (0, 0))

end Go.Proofs.Ybulkefry
