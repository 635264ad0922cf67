import Derived.Test.YbulkeftaT1
namespace Go.Proofs.Ybulkefta
open Go.RowKit

/-- the pieces, commas between -/
def jn (f : Nat → List Int) : Nat → List Int
  | 0 => []
  | k + 1 => jn f k ++ (if k = 0 then [] else [44]) ++ f k
/-- the pieces, each followed by a comma -/
def fc (f : Nat → List Int) : Nat → List Int
  | 0 => []
  | k + 1 => fc f k ++ f k ++ [44]
theorem fc_jn (f : Nat → List Int) : ∀ k, 0 < k → fc f k = jn f k ++ [44]
  | 0, h => absurd h (by omega)
  | 1, _ => by simp [fc, jn]
  | k + 2, _ => by
    have := fc_jn f (k + 1) (by omega)
    rw [fc, this, jn.eq_2 f (k + 1)]
    simp
theorem fc_mono (f : Nat → List Int) : ∀ k j, j ≤ k → (fc f j).length ≤ (fc f k).length
  | 0, j, h => by rw [Nat.le_zero.1 h]; exact Nat.le_refl _
  | k + 1, j, h => by
    by_cases e : j = k + 1
    · rw [e]; exact Nat.le_refl _
    · have := fc_mono f k j (by omega)
      simp only [fc, List.length_append]; omega
theorem jn_mono (f : Nat → List Int) : ∀ k j, j ≤ k → (jn f j).length ≤ (jn f k).length
  | 0, j, h => by rw [Nat.le_zero.1 h]; exact Nat.le_refl _
  | k + 1, j, h => by
    by_cases e : j = k + 1
    · rw [e]; exact Nat.le_refl _
    · have := jn_mono f k j (by omega)
      simp only [jn, List.length_append]; omega
theorem jn_congr {f g : Nat → List Int} : ∀ k, (∀ j, j < k → f j = g j) → jn f k = jn g k
  | 0, _ => rfl
  | k + 1, h => by rw [jn, jn, jn_congr k (fun j hj => h j (by omega)), h k (by omega)]
/-- the array as JSON -/
def arr (f : Nat → List Int) (k : Nat) : List Int := 91 :: (jn f k ++ [93])

theorem heap_setCell_at {w : World} {r i : Nat} {cs : Array Value} {t : TypeId} {fr : Nat × Nat} (h : w.heap[r]? = some (.cells cs t fr)) (v : Value) :
    (w.setCell ⟨r, i, none⟩ v).heap[r]? = some (.cells (cs.setIfInBounds i v) t fr) := by
  simp [World.setCell, Array.getElem?_modify, h]

theorem owns_setLast {w : World} {B g cap n : Nat} {xs : List Value} {x : Value} (h : w.ownsRow B 5 1 (.slice (some ⟨g, 0, none⟩) (n + 1) cap) (n + 1) (xs ++ [x])) (y : Value) :
    (w.setCell ⟨g, n, none⟩ y).ownsRow B 5 1 (.slice (some ⟨g, 0, none⟩) (n + 1) cap) (n + 1) (xs ++ [y]) := by
  obtain ⟨hl, h⟩ := h
  refine ⟨by simpa using hl, ?_⟩
  rcases h with ⟨h0, _⟩ | ⟨g', cap', cur, e, hbg, hg, hnc, hcm, hcs, htake⟩
  · cases h0
  · cases e
    refine .inr ⟨g, cap, cur.setIfInBounds n y, rfl, hbg, heap_setCell_at hg y, hnc, hcm, by simpa using hcs, ?_⟩
    have hxl : xs.length = n := by simp at hl; omega
    simp only [Nat.mul_one] at htake ⊢
    rw [Array.toList_setIfInBounds, List.take_set, htake, List.set_append, if_neg (by omega), hxl, Nat.sub_self]
    rfl

/-- one byte, as the translation lays it for an append -/
theorem src1 (w : World) (c : Int) : Src Yba.prog 1 22 (.slice (some ⟨w.heap.size, 0, none⟩) 1 1) 1 (bcells [c]) (w.alloc (.cells #[.int .u8 c] 5)) := by
  refine Src.ofSlice _ Yba.underlying22 _ 1 1 _ rfl (fun j u hj => ?_) (bcells_one _)
  rw [Addr.add_lit, Nat.zero_add, World.cell?_alloc_at _ _ _ _ rfl]
  simpa [bcells] using hj

theorem owns_below {w w' : World} {B : Nat} {e : TypeId} {size n : Nat} {v : Value} {xs : List Value} {W : World} (hb : Below B W w) (h : w.ownsRow B e size v n xs) (hg : w.grownBy w' v.ownBlock) (hB : B ≤ w.heap.size) : Below B W w' :=
  hb.grown hg hB fun k hk => (h.lt k hk).1

set_option maxHeartbeats 1000000 in
theorem wrap (pb k cap : Nat) (P : Nat → Value) (f : Nat → List Int) (T : Nat → Prop) (w : World) (hk : k ≤ 1048576) (hc : ∀ j, j < k → w.cell? ⟨pb, j, none⟩ = some (P j) ∧ BytesAt w T (P j) (f j))
    (hlen : (fc f k).length ≤ 1073741824) :
    Calls Yba.prog 13 #[.slice (some ⟨pb, 0, none⟩) k cap] w fun e w' => ∃ v', e = .returned v' ∧ w'.ownsRow w.heap.size 5 1 v' (arr f k).length (bcells (arr f k)) ∧ Below w.heap.size w w' := by
  obtain ⟨i0, hi, hz0, hz1, hz2⟩ := info_parts info5
  go_enter Yba.func13, Yba.ntmps13
  go_wp2
  go_loopw [3, 8] (fun v i wr => ∃ j : Nat, j ≤ k ∧ i = .int .i64 j ∧ wr.ownsRow w.heap.size 5 1 v (1 + (fc f j).length) (bcells (91 :: fc f j)) ∧ Below w.heap.size w wr) (fun _ i _ => k - (intOf i).toNat)
  case atStart =>
    refine ⟨0, Nat.zero_le _, rfl, ⟨rfl, .inr ⟨w.heap.size, 1, _, rfl, Nat.le_refl _, heap_alloc_new w _, by simp [fc], by unfold maxLen; omega, rfl, rfl⟩⟩, (Below.refl _ _).alloc (Nat.le_refl _) _⟩
  case round =>
    obtain ⟨j, hj, rfl, hown, hb⟩ := hrel
    have hbz := hb.size
    by_cases hlt : j < k
    · obtain ⟨cj, bj⟩ := hc j hlt
      have hpl : pb < w.heap.size := World.block_lt_of_cell? _ _ cj
      rw [← hb.cell (p := ⟨pb, j, none⟩) hpl] at cj
      have hm := fc_mono f k (j + 1) (by omega)
      simp only [fc, List.length_append, List.length_cons, List.length_nil] at hm
      have HOW := hide hown
      have HBJ := hide (bj.below hb)
      clear hown bj hc
      go_wp2_with (at_builtin; refine wpList_append_own_src _ rfl (.tmp 11) (.tmp 15) 22 22 rfl w.heap.size 5 i0 (.int .u8 0) 1 1 Yba.underlying22 hi hz0 hz1 hz2 rfl _ _ _ rfl HOW.out _ _ _ rfl HBJ.out.src (by unfold maxLen; omega) (by omega) hbz ?_)
      intro v1 w1 hown1 hgr1 hnil1 hat1
      have hb1 := owns_below hb HOW.out hgr1 hbz
      have hbz1 := hb1.size
      have HOW1 := hide hown1
      clear hown1 hgr1 hnil1 hat1 HOW HBJ
      go_wp2_with (at_builtin; refine wpList_append_own_src _ rfl (.tmp 17) (.tmp 18) 22 22 rfl w.heap.size 5 i0 (.int .u8 0) 1 1 Yba.underlying22 hi hz0 hz1 hz2 rfl _ _ _ rfl (HOW1.out.alloc _) _ _ _ rfl (src1 w1 44) (by unfold maxLen; omega) (by omega) (by simp; omega) ?_)
      intro v2 w2 hown2 hgr2 hnil2 hat2
      have hb2 := owns_below (hb1.alloc hbz1 _) (HOW1.out.alloc _) hgr2 (by simp; omega)
      have HOW2 := hide hown2
      clear hown2 hgr2 hnil2 hat2 HOW1
      go_wp2
      refine ⟨⟨j + 1, by omega, by go_num, ?_, hb2⟩, by simp [intOf]; omega⟩
      have := HOW2.out
      rw [← bcells_append, ← bcells_append] at this
      simp only [fc, List.cons_append, List.append_assoc, List.length_append, List.length_cons, List.length_nil] at this ⊢
      simp only [← Nat.add_assoc, Nat.zero_add] at this ⊢
      exact this
    · have hjk : j = k := by omega
      subst hjk
      by_cases h0 : 0 < j
      · have e := fc_jn f j h0
        rcases hown.2 with ⟨_, h1⟩ | ⟨g, cap', cur, rfl, hbg, hg, hnc, hcm, hcs, htake⟩
        · omega
        have hl : (fc f j).length = (jn f j).length + 1 := by rw [e]; simp
        have hown' : wr.ownsRow w.heap.size 5 1 (.slice (some ⟨g, 0, none⟩) ((jn f j).length + 1 + 1) cap') ((jn f j).length + 1 + 1) (bcells (91 :: jn f j) ++ [.int .u8 44]) := by
          have := hown
          rw [e] at this
          simpa [bcells, hl, Nat.add_comm, Nat.add_left_comm] using this
        have hcell : wr.cell? ⟨g, (jn f j).length + 1, none⟩ = some (.int .u8 44) := by
          have := hown'.cells (g := g) rfl ((jn f j).length + 1) (.int .u8 44) (by rw [List.getElem?_append_right (by simp [bcells])]; simp [bcells])
          rw [Addr.add_lit, Nat.zero_add] at this
          exact this
        have hfro : wr.frozen? ⟨g, (jn f j).length + 1, none⟩ = false := by simp [World.frozen?, hg]
        have HS := hide (owns_setLast hown' (.int .u8 93))
        clear hown hown' hg htake hcs hcm e
        rw [hl]
        rw [hl] at hnc
        have HA : Hid ((arr f j).length = (jn f j).length + 1 + 1) := by show _ = _; simp [arr]
        have HR : Hid (bcells (91 :: jn f j) ++ [.int .u8 93] = bcells (arr f j)) := by show _ = _; simp [arr, bcells]
        generalize (jn f j).length = L at *
        go_wp2
        go_ret
        refine ⟨_, rfl, ?_, hb.setCell hbg _⟩
        show World.ownsRow _ _ _ _ (.slice (some ⟨g, 0, none⟩) (1 + (L + 1)) cap') _ _
        rw [HA.out, ← HR.out, show 1 + (L + 1) = L + 1 + 1 by omega]
        exact HS.out
      · have hj0 : j = 0 := by omega
        subst hj0
        have HOW := hide hown
        clear hown
        go_wp2_with (at_builtin; refine wpList_append_own_src _ rfl (.tmp 29) (.tmp 30) 22 22 rfl w.heap.size 5 i0 (.int .u8 0) 1 1 Yba.underlying22 hi hz0 hz1 hz2 rfl _ _ _ rfl (HOW.out.alloc _) _ _ _ rfl (src1 wr 93) (by simp [fc, maxLen]) (by simp [fc]) (by simp; omega) ?_)
        intro v2 w2 hown2 hgr2 hnil2 hat2
        have hb2 := owns_below (hb.alloc hbz _) (HOW.out.alloc _) hgr2 (by simp; omega)
        have HOW2 := hide hown2
        clear hown2 hgr2 hnil2 hat2 HOW
        go_wp2
        go_ret
        refine ⟨_, rfl, ?_, hb2⟩
        have := HOW2.out
        rw [← bcells_append] at this
        exact this
end Go.Proofs.Ybulkefta
