import Derived.Test.YbulkeftaT3
namespace Go.Proofs.Ybulkefta
open Go.RowKit

theorem run_store_any {P : Program} (w : World) (b i : Nat) (v : Value) (hv : v.oneCell' = true) (h : (w.cell? ⟨b, i, none⟩).isSome = true) (hf : w.frozen? ⟨b, i, none⟩ = false) :
    (store ⟨b, i, none⟩ v).run P w = .ok () (w.setCell ⟨b, i, none⟩ v) := by
  rw [run_store P w _ v _ hv]
  obtain ⟨x, hx⟩ := Option.isSome_iff_exists.1 h
  simp [hx, hf]

theorem src1' (w : World) (c : Int) (g : Nat) (hg : g = w.heap.size) : Src Yba.prog 1 22 (.slice (some ⟨g, 0, none⟩) 1 1) 1 (bcells [c]) (w.alloc (.cells #[.int .u8 c] 5)) := by subst hg; exact src1 w c

set_option maxHeartbeats 2000000 in
theorem arrJSON (C ab k cap : Nat) (w0 : World) (A N : Nat → Value) (f : Nat → List Int) (c : Nat → Nat)
    (hab : 0 < k → ab ≠ C) (hcell : ∀ j, j < k → w0.cell? ⟨ab, j * 2, none⟩ = some (A j) ∧ w0.cell? ⟨ab, j * 2 + 1, none⟩ = some (N j)) (hone : ∀ j, j < k → (A j).oneCell' = true ∧ (N j).oneCell' = true)
    (hel : ∀ j, j < k → ElemOK C w0 (A j) (N j) (f j) (c j)) (w : World) (v : Value) (n : Nat) (xs : List Int) (cnt : Int) (hst : St C w0 cnt w) (hd : Dst w w0.heap.size v n xs)
    (hn : n + (arr f k).length ≤ 1099511627776) (h0 : 0 ≤ cnt) (h1 : cnt + csum c k ≤ 1099511627776) (hk : k ≤ 1048576) :
    Calls Yba.prog 14 #[.slice (some ⟨ab, 0, none⟩) k cap, v] w fun e w' => ∃ v', e = .returned v' ∧ w'.ownsRow w0.heap.size 5 1 v' (n + (arr f k).length) (bcells (xs ++ arr f k)) ∧ St C w0 (cnt + csum c k) w' := by
  obtain ⟨i0, hi, hz0, hz1, hz2⟩ := info_parts info5
  have hsz := hst.size
  have hal : (arr f k).length = (jn f k).length + 2 := by simp [arr]
  have HD := hide (hd.alloc (.cells #[.int .u8 91] 5))
  have HST := hide (hst.alloc (.cells #[.int .u8 91] 5))
  clear hd hst
  go_enter Yba.func14, Yba.ntmps14
  go_wp2_with (at_builtin; refine wpList_append_dst rfl (.tmp 7) (.tmp 8) rfl w0.heap.size _ n xs rfl HD.out _ _ _ rfl (src1 w 91) (by omega) (by simp; omega) (by omega) ?_)
  intro v1 w1 hown1 row hgr1 hrow
  have HS1 := hide (HST.out.grown hgr1 hrow)
  have HO1 := hide hown1
  clear hown1 hgr1 hrow HD HST
  go_wp2
  go_loopw [1, 12] (fun d i wr => ∃ j : Nat, j ≤ k ∧ i = .int .i64 j ∧ wr.ownsRow w0.heap.size 5 1 d (n + 1 + (jn f j).length) (bcells (xs ++ 91 :: jn f j)) ∧ St C w0 (cnt + csum c j) wr) (fun _ i _ => k - (intOf i).toNat)
  case atStart =>
    refine ⟨0, Nat.zero_le _, rfl, ?_, by simpa [csum] using HS1.out⟩
    have := HO1.out
    rw [← bcells_append] at this
    exact this
  case round =>
    obtain ⟨j, hj, rfl, hown, hst⟩ := hrel
    have hjm := jn_mono f k j hj
    by_cases hlt : j < k
    · have hjm1 := jn_mono f k (j + 1) (by omega)
      have hcs1 := csum_mono c k (j + 1) (by omega)
      simp only [csum] at hcs1
      obtain ⟨c0, c1⟩ := hcell j hlt
      have c0' := hst.cell (hab (by omega)) c0
      have c1' := hst.cell (hab (by omega)) c1
      obtain ⟨o0, o1⟩ := hone j hlt
      have hstA : ∀ (w : World) (b i : Nat), (w.cell? ⟨b, i, none⟩).isSome = true → w.frozen? ⟨b, i, none⟩ = false → (store ⟨b, i, none⟩ (A j)).run Yba.prog w = .ok () (w.setCell ⟨b, i, none⟩ (A j)) := fun w b i => run_store_any w b i _ o0
      have hstN : ∀ (w : World) (b i : Nat), (w.cell? ⟨b, i, none⟩).isSome = true → w.frozen? ⟨b, i, none⟩ = false → (store ⟨b, i, none⟩ (N j)).run Yba.prog w = .ok () (w.setCell ⟨b, i, none⟩ (N j)) := fun w b i => run_store_any w b i _ o1
      have HEL := hide (hel j hlt)
      have hszr := hst.size
      have HOW := hide hown
      have HST := hide hst
      clear hown hst hel hcell hone hab c0 c1 HS1 HO1
      by_cases hj0 : j = 0
      · subst hj0
        have hl1 : (jn f (0 + 1)).length = (f 0).length := by simp [jn]
        go_wp2_with fail
        refine (HEL.out _ _ (n + 1 + (jn f 0).length) (xs ++ 91 :: jn f 0) (cnt + csum c 0) (HST.out.alloc _) (HOW.out.alloc _) (by simp only [jn, List.length_nil]; omega) (by omega) (by omega)).mono ?_
        rintro e w2 ⟨v2, rfl, ho2, hs2⟩
        have HO2 := hide ho2
        have HS2 := hide hs2
        clear ho2 hs2
        go_wp2
        refine ⟨⟨1, by omega, rfl, ?_, ?_⟩, by simp [intOf]; omega⟩
        · have := HO2.out
          simpa [jn] using this
        · have := HS2.out
          simpa [csum] using this
      · have hjp : 0 < j := by omega
        have hl1 : (jn f (j + 1)).length = (jn f j).length + 1 + (f j).length := by simp [jn, hj0]; omega
        have HJ := hide hj0
        clear hj0
        go_wp2_with (at_builtin; refine wpList_append_own_src _ rfl (.tmp 19) (.tmp 20) 22 22 rfl w0.heap.size 5 i0 (.int .u8 0) 1 1 Yba.underlying22 hi hz0 hz1 hz2 rfl _ _ _ rfl ((HOW.out.alloc (.cells #[A j, N j] 43)).alloc _) _ _ _ rfl (src1' (wr.alloc (.cells #[A j, N j] 43)) 44 (wr.heap.size + 1) (by simp)) (by unfold maxLen; omega) (by omega) (by simp; omega) ?_)
        intro v3 w3 hown3 hgr3 hnil3 hat3
        have HS3 := hide (((HST.out.alloc (.cells #[A j, N j] 43)).alloc (.cells #[.int .u8 44] 5)).owns ((HOW.out.alloc (.cells #[A j, N j] 43)).alloc _) hgr3)
        have HO3 := hide hown3
        have e0 : w3.cell? ⟨wr.heap.size, 0, none⟩ = some (A j) := by
          refine hgr3.cell ?_ ?_
          · rw [World.cell?_alloc_past _ _ _ (by simp), World.cell?_alloc_at _ _ _ _ rfl]; rfl
          · intro h
            have := ((HOW.out.alloc (.cells #[A j, N j] 43))).lt wr.heap.size h.symm
            have h2 := HOW.out.lt wr.heap.size h.symm
            omega
        have e1 : w3.cell? ⟨wr.heap.size, 1, none⟩ = some (N j) := by
          refine hgr3.cell ?_ ?_
          · rw [World.cell?_alloc_past _ _ _ (by simp), World.cell?_alloc_at _ _ _ _ rfl]; rfl
          · intro h
            have h2 := HOW.out.lt wr.heap.size h.symm
            omega
        clear hown3 hgr3 hnil3 hat3 HOW HST
        go_wp2_with fail
        refine (HEL.out _ _ (n + 1 + (jn f j).length + 1) (xs ++ 91 :: jn f j ++ [44]) (cnt + csum c j) HS3.out (by have := HO3.out; rw [← bcells_append] at this; exact this) (by omega) (by omega) (by omega)).mono ?_
        rintro e w2 ⟨v2, rfl, ho2, hs2⟩
        have HO2 := hide ho2
        have HS2 := hide hs2
        clear ho2 hs2
        go_wp2
        refine ⟨⟨j + 1, by omega, by go_num, ?_, ?_⟩, by simp [intOf]; omega⟩
        · have := HO2.out
          rw [hl1]
          simp only [jn, HJ.out, if_false] at this ⊢
          simpa [Nat.add_assoc] using this
        · have := HS2.out
          simp only [csum]
          rw [show cnt + ((csum c j + c j : Nat) : Int) = cnt + (csum c j : Int) + (c j : Int) by omega]
          exact this
    · have hjk : j = k := by omega
      subst hjk
      have HOW := hide hown
      have HST := hide hst
      have hszr := hst.size
      clear hown hst hel hcell hone hab HS1 HO1
      go_wp2_with (at_builtin; refine wpList_append_own_src _ rfl (.tmp 26) (.tmp 27) 22 22 rfl w0.heap.size 5 i0 (.int .u8 0) 1 1 Yba.underlying22 hi hz0 hz1 hz2 rfl _ _ _ rfl (HOW.out.alloc _) _ _ _ rfl (src1 wr 93) (by unfold maxLen; omega) (by omega) (by simp; omega) ?_)
      intro v3 w3 hown3 hgr3 hnil3 hat3
      have HS3 := hide ((HST.out.alloc (.cells #[.int .u8 93] 5)).owns (HOW.out.alloc _) hgr3)
      have HO3 := hide hown3
      clear hown3 hgr3 hnil3 hat3 HOW HST
      go_wp2
      go_ret
      refine ⟨_, rfl, ?_, HS3.out⟩
      have := HO3.out
      rw [← bcells_append] at this
      rw [hal, show n + ((jn f j).length + 2) = n + 1 + (jn f j).length + 1 by omega]
      simpa [arr] using this
end Go.Proofs.Ybulkefta
