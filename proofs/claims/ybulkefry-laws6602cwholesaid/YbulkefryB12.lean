import Derived.Test.YbulkefryB7
import Derived.Test.YbulkefryB11
namespace Go.Proofs.Ybulkefry
open Go.RowKit

set_option maxRecDepth 100000 in
theorem buildNil (S : Nat) (w : World) : Calls Yba.prog 8 #[.pointer (some ⟨S, 0, none⟩), .slice none 0 0, .int .i64 0, .int .i32 0] w fun e w' => e = .returned (.int .i32 0) ∧ w = w' := by
  go_enter Yba.func8, Yba.ntmps8
  go_wp2
  go_ret
  exact ⟨rfl, rfl⟩

theorem walkNil (clock x : Int) (w : World) (D : Nat → Int × Int × Bool) (hclk : -2147483648 ≤ clock ∧ clock ≤ 2147483647) : Calls Yba.prog 3 #[.slice none 0 0, .int .i32 clock, .int .i64 x] w fun e w' => e = .returned (.bool true) ∧ Below w.heap.size w w' := by
  refine walkG (fun w1 sv => w1 = w ∧ sv = .slice none 0 0) (fun w1 sv => w1 = w ∧ sv = .slice none 0 0) none 0 0 D clock x w (by omega) ⟨fun h => absurd h (by omega), fun i hi => absurd hi (by omega)⟩ hclk ?_ ?_ ?_
  · refine (cloneNil w).mono ?_
    rintro e w' ⟨rfl, rfl⟩
    exact ⟨none, 0, rfl, Below.refl _ _, rfl, rfl⟩
  · rintro w1 sv ⟨rfl, rfl⟩
    refine (sortNil _ w1).mono ?_
    rintro e w' ⟨rfl, rfl⟩
    exact ⟨rfl, Below.refl _ _, rfl, rfl⟩
  · rintro w2 sv ⟨rfl, rfl⟩ W hW S G hS hG hSG hN
    refine (buildNil S W).mono ?_
    rintro e w' ⟨rfl, rfl⟩
    exact ⟨0, rfl, _, [], 0, hN, ⟨rfl, rfl⟩, List.Pairwise.nil, fun c => ⟨fun h => absurd h List.not_mem_nil, fun ⟨i, hi, _⟩ => absurd hi (by omega)⟩, by omega, Kept.refl _ _⟩

theorem walkSome (a : Addr) (n cap1 : Nat) (D : Nat → Int × Int × Bool) (clock x : Int) (w : World) (hn : n ≤ 65536) (hI : InpC w (some a) n D) (hclk : -2147483648 ≤ clock ∧ clock ≤ 2147483647) :
    Calls Yba.prog 3 #[.slice (some a) n cap1, .int .i32 clock, .int .i64 x] w fun e w' => e = .returned (.bool true) ∧ Below w.heap.size w w' := by
  have hsz : ((Array.range n).map D).size = n := by simp
  have hget : ∀ i, i < n → ((Array.range n).map D)[i]! = D i := fun i hi => by simp [hi]
  have hfs : (Go.Sort.flatK encC 3 ((Array.range n).map D)).size = n * 3 := by rw [Go.Sort.size_flatK, hsz]
  have hfg : ∀ t, t < n * 3 → (Go.Sort.flatK encC 3 ((Array.range n).map D))[t]! = (encC (D (t / 3)))[t % 3]! := fun t ht => by
    rw [Go.Sort.get_flatK _ _ _ _ (by rw [hsz]; exact ht), hget _ (by omega)]
  have hat : ∀ j u, (Go.Sort.flatK encC 3 ((Array.range n).map D)).toList[j]? = some u → j < n * 3 ∧ u = (encC (D (j / 3)))[j % 3]! := fun j u hu => by
    have hj : j < n * 3 := by
      have := (List.getElem?_eq_some_iff.1 hu).1
      rw [Array.length_toList, hfs] at this
      exact this
    refine ⟨hj, ?_⟩
    rw [← hfg j hj]
    rw [Array.getElem?_toList] at hu
    simp [hfs, hj]
    obtain ⟨_, h⟩ := Array.getElem?_eq_some_iff.1 hu
    exact h.symm
  refine walkG (fun w1 sv => ∃ g cap', sv = .slice (some ⟨g, 0, none⟩) n cap' ∧ n ≤ cap' ∧ w.heap.size ≤ g ∧ g < w1.heap.size ∧ Go.Sort.HoldsK encC 3 w1 g 0 ((Array.range n).map D))
    (fun w2 sv => ∃ g cap' d', sv = .slice (some ⟨g, 0, none⟩) n cap' ∧ n ≤ cap' ∧ g < w2.heap.size ∧ d'.size = n ∧ (∀ c, c ∈ d'.toList ↔ c ∈ ((Array.range n).map D).toList) ∧ (∀ i j, i < j → j < d'.size → d'[i]!.1 ≤ d'[j]!.1) ∧ Go.Sort.HoldsK encC 3 w2 g 0 d') (some a) n cap1 D clock x w hn hI hclk ?_ ?_ ?_
  · refine (cloneC a n cap1 (Go.Sort.flatK encC 3 ((Array.range n).map D)).toList w (by rw [Array.length_toList, hfs]) (fun j u hu => ?_) (fun u hu => ?_) (by omega)).mono ?_
    · obtain ⟨hj, rfl⟩ := hat j u hu
      obtain ⟨eb, eo, ea, heb, hel⟩ := hI.elem (by omega)
      cases ea
      rw [Addr.add_lit]
      obtain ⟨c0, c1, c2⟩ := hel (j / 3) (by omega)
      rcases (show j % 3 = 0 ∨ j % 3 = 1 ∨ j % 3 = 2 by omega) with h | h | h
      · have e : eo + j = eo + j / 3 * 3 := by omega
        rw [h, e, c0]; rfl
      · have e : eo + j = eo + j / 3 * 3 + 1 := by omega
        rw [h, e, c1]; rfl
      · have e : eo + j = eo + j / 3 * 3 + 2 := by omega
        rw [h, e, c2]; rfl
    · obtain ⟨j, hj⟩ := List.getElem?_of_mem hu
      obtain ⟨_, rfl⟩ := hat j u hj
      rcases (show j % 3 = 0 ∨ j % 3 = 1 ∨ j % 3 = 2 by omega) with h | h | h <;> rw [h] <;> rfl
    · rintro e w' ⟨v', rfl, ho, hv, hb⟩
      rcases ho.2 with ⟨h, _⟩ | ⟨g, cp, cur, rfl, hbg, hg, hnc, hcm, hcs, htake⟩
      · exact absurd h hv
      · refine ⟨some ⟨g, 0, none⟩, cp, rfl, hb, g, cp, rfl, hnc, hbg, (Array.getElem?_eq_some_iff.1 hg).1, fun j hj => ⟨?_, by simp [World.frozen?, hg]⟩⟩
        have hj' : j < (Go.Sort.flatK encC 3 ((Array.range n).map D)).toList.length := by rw [Array.length_toList]; exact hj
        have := ho.cells (g := g) rfl j _ (List.getElem?_eq_getElem hj')
        rw [Addr.add_lit] at this
        rw [this]
        simp only [Array.getElem_toList, id]
        exact congrArg some (getElem!_pos _ j hj).symm
  · rintro w1 sv ⟨g, cap', rfl, hc, hg, hgl, hH⟩
    have h := sortc g cap' _ w1 hH hgl (by rw [hsz]; omega)
    rw [hsz] at h
    refine h.mono ?_
    rintro e w2 ⟨rfl, d', h1, h2, h3, h4, hk⟩
    exact ⟨rfl, hk.below (by omega) (fun k hk => by omega), g, cap', d', rfl, hc, Nat.lt_of_lt_of_le hgl hk.size, h1, h2, h3, h4⟩
  · rintro w2 sv ⟨g, cap', d', rfl, hcap, hgl, hds, hmem, hso, hH⟩ W hW S G hS hG hSG hN
    have hlS := (Array.getElem?_eq_some_iff.1 hN.var).1
    have hin : ∀ i, i < n → ∃ k, k < n ∧ d'[i]! = D k := fun i hi => by
      have h1 : d'[i]! ∈ d'.toList := by
        have : d'[i]! = d'[i]'(by omega) := by simp [show i < d'.size by omega]
        rw [this]
        simp
      have h2 := (hmem _).1 h1
      simp at h2
      obtain ⟨k, hk, e⟩ := h2
      exact ⟨k, hk, e.symm⟩
    refine (build n W S G (n + 1) 1 g 0 cap' 0 0 (fun _ _ => 0) (fun i => d'[i]!) (by omega) (by omega) (by omega) (by omega) hSG (by omega) (by omega) hlS (fun _ => by have := hW.size; omega) hN (fun i hi => ?_) (fun i hi => ?_) hcap).mono ?_
    · have h0 := (hH.cell (i := i) (c := 0) (by omega) (by omega)).1
      have h1 := (hH.cell (i := i) (c := 1) (by omega) (by omega)).1
      have h2 := (hH.cell (i := i) (c := 2) (by omega) (by omega)).1
      rw [← hW.cell (p := ⟨g, 0 + i * 3 + 0, none⟩) hgl] at h0
      rw [← hW.cell (p := ⟨g, 0 + i * 3 + 1, none⟩) hgl] at h1
      rw [← hW.cell (p := ⟨g, 0 + i * 3 + 2, none⟩) hgl] at h2
      exact ⟨h0, h1, h2⟩
    · obtain ⟨k, hk, e⟩ := hin i hi
      rw [e]
      exact hI.bnd k hk
    · rintro e w' ⟨r, nd', rfl, hN', _, hT, hr, hK⟩
      rw [show 1 + n = n + 1 by omega] at hN' hT
      refine ⟨r, rfl, nd', _, n + 1, hN', hT, ?_, fun c => ?_, hr, hK⟩
      · rw [List.pairwise_map]
        refine List.Pairwise.imp_of_mem ?_ List.pairwise_lt_range
        intro i j hi hj hij
        exact hso i j hij (by rw [hds]; exact List.mem_range.1 hj)
      · constructor
        · intro hc
          obtain ⟨i, hi, rfl⟩ := List.mem_map.1 hc
          exact hin i (List.mem_range.1 hi)
        · rintro ⟨i, hi, rfl⟩
          have h2 : D i ∈ d'.toList := (hmem _).2 (by simp; exact ⟨i, hi, rfl⟩)
          obtain ⟨k, hk, e⟩ := List.mem_iff_getElem.1 h2
          refine List.mem_map.2 ⟨k, List.mem_range.2 (by rw [Array.length_toList] at hk; omega), ?_⟩
          rw [← e]
          rw [Array.length_toList] at hk
          simp [hk]
end Go.Proofs.Ybulkefry
