import Derived.Test.YbulkefryB1
import Derived.Test.YbulkefryShelf
namespace Go.Proofs.Ybulkefry
open Go.Shelf Go.RowKit Go.Lib

/-- a class's three cells -/
def encC (x : Int × Int × Bool) : List Value := [.int .i32 x.1, .int .i32 x.2.1, .bool x.2.2]
/-- how the law orders two classes -/
def cmpC (x y : Int × Int × Bool) : Int := if Lib.compareInt x.1 y.1 = 0 then Lib.compareInt x.2.1 y.2.1 else Lib.compareInt x.1 y.1

theorem isnan (x : Int) (w : World) : Calls Yba.prog 14 #[.int .i32 x] w fun e w' => e = .returned (.bool false) ∧ w = w' := by
  go_enter Yba.func14, Yba.ntmps14
  go_wp2
  go_ret
  exact ⟨by simp, rfl⟩

set_option maxHeartbeats 1000000 in
theorem cmpI (x y : Int) (w : World) : Calls Yba.prog 7 #[.int .i32 x, .int .i32 y] w fun e w' => e = .returned (.int .i64 (Lib.compareInt x y)) ∧ w = w' := by
  have hn := fun x => isnan x w
  by_cases h1 : x < y
  · have e : Lib.compareInt x y = -1 := by simp [Lib.compareInt, h1]
    rw [e]
    clear e
    go_enter Yba.func7, Yba.ntmps7
    go_wp2_with (go_at_call 14; refine (hn _).mono ?_; rintro e w' ⟨rfl, rfl⟩)
    go_ret
    exact ⟨rfl, rfl⟩
  · by_cases h2 : y < x
    · have e : Lib.compareInt x y = 1 := by simp [Lib.compareInt, h1, h2]
      rw [e]
      clear e
      have h3 : decide (x < y) = false := by simp; omega
      go_enter Yba.func7, Yba.ntmps7
      go_wp2_with (go_at_call 14; refine (hn _).mono ?_; rintro e w' ⟨rfl, rfl⟩)
      go_ret
      exact ⟨rfl, rfl⟩
    · have e : Lib.compareInt x y = 0 := by simp [Lib.compareInt, h1, h2]
      rw [e]
      clear e
      obtain rfl : x = y := by omega
      go_enter Yba.func7, Yba.ntmps7
      go_wp2_with (go_at_call 14; refine (hn _).mono ?_; rintro e w' ⟨rfl, rfl⟩)
      go_ret
      exact ⟨rfl, rfl⟩

set_option maxHeartbeats 1000000 in
theorem closC (x y : Int × Int × Bool) (W : World) : Calls Yba.prog 6 #[.agg #[.int .i32 x.1, .int .i32 x.2.1, .bool x.2.2], .agg #[.int .i32 y.1, .int .i32 y.2.1, .bool y.2.2]] W fun e w' => e = .returned (.int .i64 (cmpC x y)) ∧ ∃ q os', w' = Go.Sort.grow (W.drewN q) os' := by
  obtain ⟨a, b, c⟩ := x
  obtain ⟨a', b', c'⟩ := y
  have h1 := fun w => cmpI a a' w
  have h2 := fun w => cmpI b b' w
  unfold cmpC
  simp only []
  generalize Lib.compareInt a a' = r at *
  generalize Lib.compareInt b b' = s at *
  by_cases hr : r = 0
  · subst hr
    rw [if_pos rfl]
    go_enter Yba.func6, Yba.ntmps6
    go_wp2_with fail
    refine (h1 _).mono ?_
    rintro e w' ⟨rfl, rfl⟩
    go_wp2_with (go_at_call 7; refine (h2 _).mono ?_; rintro e w' ⟨rfl, rfl⟩)
    go_ret
    exact ⟨rfl, 0, _, by rw [Go.Sort.alloc_eq_grow, Go.Sort.alloc_eq_grow, Go.Sort.grow_grow]; rfl⟩
  · rw [if_neg hr]
    go_enter Yba.func6, Yba.ntmps6
    go_wp2_with fail
    refine (h1 _).mono ?_
    rintro e w' ⟨rfl, rfl⟩
    go_wp2
    go_ret
    exact ⟨rfl, 0, _, by rw [Go.Sort.alloc_eq_grow, Go.Sort.alloc_eq_grow, Go.Sort.grow_grow]; rfl⟩

theorem ltC (x y : Int × Int × Bool) : ltOf cmpC x y = decide (x.1 < y.1 ∨ (x.1 = y.1 ∧ x.2.1 < y.2.1)) := by
  unfold ltOf cmpC Lib.compareInt
  by_cases h1 : x.1 < y.1
  · simp [h1]
  · by_cases h2 : y.1 < x.1
    · simp [h1, h2]; omega
    · have h3 : x.1 = y.1 := by omega
      by_cases h4 : x.2.1 < y.2.1
      · simp [h3, h4]
      · by_cases h5 : y.2.1 < x.2.1 <;> simp [h3, h4, h5]

theorem swoC : Go.Sort.SWO (ltOf cmpC) where
  irrefl x := by rw [ltC]; simp
  trans x y z h1 h2 := by rw [ltC] at *; simp at *; omega
  ntrans x y z h1 h2 := by rw [ltC] at *; simp at *; omega

theorem sortc (blk cap : Nat) (d : Array (Int × Int × Bool)) (w : World) (hH : Go.Sort.HoldsK encC 3 w blk 0 d) (hblk : blk < w.heap.size) (hsz : d.size < 4611686018427387904) :
    Calls Yba.prog 5 #[.slice (some ⟨blk, 0, none⟩) d.size cap, .func (.func 6) #[] #[]] w fun e w' => e = .returned (.tuple #[]) ∧
      ∃ d' : Array (Int × Int × Bool), d'.size = d.size ∧ (∀ x, x ∈ d'.toList ↔ x ∈ d.toList) ∧ (∀ i j, i < j → j < d'.size → d'[i]!.1 ≤ d'[j]!.1) ∧ Go.Sort.HoldsK encC 3 w' blk 0 d' ∧ Kept (fun k => k = blk) w w' := by
  have eg : ∀ args w, (callFunc 6 args).run Yba.prog w = .ok (.enter 6 args) w := enters_of Yba.func6 (by kernel_rfl) rfl
  have hcmp : CmpLays Yba.prog 6 #[] encC 3 cmpC blk 0 d.size w := fun _ _ _ _ x y => closC x y _
  have hcon := AnyQ.slices_SortFunc sortC 3 Yba.isAgg25 Yba.sizeOf25 encC (fun _ => rfl) (fun x v hv => by simp [encC] at hv; rcases hv with rfl | rfl | rfl <;> rfl) cmpC swoC 6 #[] blk 0 cap d w eg hcmp hH hblk hsz
  change Calls Yba.prog 5 _ _ _ at hcon
  refine hcon.mono ?_
  rintro e w' ⟨rfl, d', n, os, hp, hs, rfl⟩
  refine ⟨rfl, d', hp.1, fun x => ?_, fun i j hij hj => ?_, holdsK_sortWorldK_c encC 3 w blk 0 d d' n os hH hblk hp.1, ?_⟩
  · have := hp.2.2.mem_iff (a := x)
    rw [← hp.1, Array.extract_size] at this
    rw [this, hp.1, Array.extract_size]
  · have := hs i j (Nat.zero_le _) hij (by rw [← hp.1]; exact hj)
    rw [ltC] at this
    simp at this
    omega
  · refine ⟨rfl, rfl, rfl, size_sortWorldK_c encC 3 w blk 0 n d' os, fun k hk hx => ?_⟩
    unfold sortWorldK Go.Sort.grow Go.Sort.putRowK Go.Sort.putRow Go.Sort.mapBlock Go.Sort.ahead
    rw [Array.getElem?_append_left (by simpa using hk)]
    simp only [Array.getElem?_modify]
    rw [if_neg (fun e => hx e.symm)]
end Go.Proofs.Ybulkefry
