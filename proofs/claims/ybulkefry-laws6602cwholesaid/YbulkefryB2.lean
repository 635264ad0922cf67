import Derived.Test.YbulkefryB1
namespace Go.Proofs.Ybulkefry
open Go.RowKit

theorem accR_no (rm v : Int) : accR rm false v = v := by simp [accR]
theorem accR_gt {rm v : Int} (h : rm < v) : accR rm true v = v := by simp [accR, h]
theorem accR_le {rm v : Int} (h : v ≤ rm) : accR rm true v = rm := by simp [accR]; omega
theorem Acc.set {w : World} {RB OB : Nat} {rm : Int} {ok : Bool} (h : Acc w RB OB rm ok) (n : RB ≠ OB) (v : Int) : Acc ((w.setCell ⟨RB, 0, none⟩ (.int .i64 v)).setCell ⟨OB, 0, none⟩ (.bool true)) RB OB v true where
  rb := by
    rw [Below.heap_setCell _ _ _ _ n]
    exact heap_setCell_at h.rb _
  ob := heap_setCell_at ((Below.heap_setCell _ _ _ _ n.symm).trans h.ob) _
theorem Acc.drewN {w : World} {RB OB : Nat} {rm : Int} {ok : Bool} (h : Acc w RB OB rm ok) (q : Nat) : Acc (w.drewN q) RB OB rm ok := ⟨h.rb, h.ob⟩

/-- what the closure reads of the left subtree: nothing, or its figures -/
def LeftAt (w : World) (G : Nat) (L : Value) (tk : Bool) (clk v2 : Int) : Prop :=
  (L = .pointer none ∧ tk = false) ∨ ∃ (o : Nat) (fst mr mi : Int), L = .pointer (some ⟨G, o, none⟩) ∧ w.cell? ⟨G, o + 3, none⟩ = some (.int .i64 fst) ∧ w.cell? ⟨G, o + 5, none⟩ = some (.int .i64 mr) ∧ w.cell? ⟨G, o + 6, none⟩ = some (.int .i64 mi) ∧
    (-4611686018427387904 ≤ mi ∧ mi ≤ 2147483647) ∧ (tk = true ↔ fst ≠ 9223372036854775807) ∧ v2 = if mr < mi - clk then mi - clk else mr

set_option maxRecDepth 100000 in
set_option maxHeartbeats 8000000 in
theorem clos (w : World) (PB C G XB RB OB o : Nat) (clk ld rmc own rm v2 : Int) (ok tk : Bool) (L : Value) (hP : PoolAt w PB C clk) (hx : w.cell? ⟨XB, 0, none⟩ = some (.pointer (some ⟨PB, 0, none⟩)))
    (h0 : w.cell? ⟨G, o, none⟩ = some (.int .i64 ld)) (h1 : w.cell? ⟨G, o + 1, none⟩ = some (.int .i64 rmc)) (h2 : w.cell? ⟨G, o + 2, none⟩ = some (.int .i64 own))
    (b1 : -2147483648 ≤ clk ∧ clk ≤ 2147483647) (b2 : -2147483648 ≤ rmc ∧ rmc ≤ 2147483647)
    (hA : Acc w RB OB rm ok) (hL : LeftAt w G L tk clk v2) (n1 : RB ≠ OB) (n3 : RB ≠ G) (n4 : OB ≠ G) (n5 : RB ≠ PB) (n6 : OB ≠ PB) (n7 : RB ≠ C) (n8 : OB ≠ C) (n9 : RB ≠ XB) (n10 : OB ≠ XB) (l1 : G < w.heap.size) (l2 : PB < w.heap.size) (l3 : C < w.heap.size) :
    Calls Yba.prog 16 #[.pointer (some ⟨G, o, none⟩), L, .pointer (some ⟨XB, 0, none⟩), .pointer (some ⟨OB, 0, none⟩), .pointer (some ⟨RB, 0, none⟩)] w fun e w' =>
      e = .returned (.tuple #[]) ∧ (∃ rm1 ok1, (own = 9223372036854775807 → rm1 = rm ∧ ok1 = ok) ∧ (own ≠ 9223372036854775807 → rm1 = accR rm ok (if ld = 0 then rmc - clk else rmc) ∧ ok1 = true) ∧
        ∃ rm2 ok2, (tk = false → rm2 = rm1 ∧ ok2 = ok1) ∧ (tk = true → rm2 = accR rm1 ok1 v2 ∧ ok2 = true) ∧ Acc w' RB OB rm2 ok2) ∧ Kept (fun k => k = RB ∨ k = OB) w w' := by
  have hroom := room w PB C G o clk ld rmc hP h0 h1 b1 b2
  generalize (if ld = 0 then rmc - clk else rmc) = v at hroom ⊢
  have c1 : w.cell? ⟨RB, 0, none⟩ = some (.int .i64 rm) := by rw [cell_of_row w RB 0 _ 2 _ hA.rb]; rfl
  have c2 : w.cell? ⟨OB, 0, none⟩ = some (.bool ok) := by rw [cell_of_row w OB 0 _ 4 _ hA.ob]; rfl
  have f1 : w.frozen? ⟨RB, 0, none⟩ = false := by simp [World.frozen?, hA.rb]
  have f2 : w.frozen? ⟨OB, 0, none⟩ = false := by simp [World.frozen?, hA.ob]
  have n2 := n1.symm
  have m3 := n3.symm
  have m4 := n4.symm
  have m5 := n9.symm
  have m6 := n10.symm
  have HA := hide hA
  rcases hL with ⟨rfl, rfl⟩ | ⟨o', fst, mr, mi, rfl, hf, hmr, hmi, b3, htk, rfl⟩
  · clear hA hP h0 h1
    by_cases ho : own = 9223372036854775807
    · subst ho
      go_enter Yba.func16, Yba.ntmps16
      go_wp2_with fail
      refine hroom.mono ?_
      rintro e w2 ⟨rfl, q, rfl⟩
      go_wp2
      (try simp only [Exit.inBlock, Exit.then]); first | (refine bodyPost_ret (results_none rfl _ _ _) rfl ?_) | (refine bodyPost_end (results_none rfl _ _ _) rfl ?_)
      exact ⟨rfl, ⟨rm, ok, fun _ => ⟨rfl, rfl⟩, fun h => absurd rfl h, rm, ok, fun _ => ⟨rfl, rfl⟩, fun h => (by cases h), (HA.out.drewN q)⟩, ((Kept.refl (fun k => k = RB ∨ k = OB) w).drewN q)⟩
    · cases ok with
      | false =>
        go_enter Yba.func16, Yba.ntmps16
        go_wp2_with fail
        refine hroom.mono ?_
        rintro e w2 ⟨rfl, q, rfl⟩
        go_wp2
        (try simp only [Exit.inBlock, Exit.then]); first | (refine bodyPost_ret (results_none rfl _ _ _) rfl ?_) | (refine bodyPost_end (results_none rfl _ _ _) rfl ?_)
        exact ⟨rfl, ⟨v, true, fun h => absurd h ho, fun _ => ⟨(accR_no _ _).symm, rfl⟩, v, true, fun _ => ⟨rfl, rfl⟩, fun h => (by cases h), ((HA.out.drewN q).set n1 v)⟩, ((((Kept.refl (fun k => k = RB ∨ k = OB) w).drewN q).setCell (p := ⟨RB, 0, none⟩) (Or.inl (Or.inl rfl)) (.int .i64 v)).setCell (p := ⟨OB, 0, none⟩) (Or.inl (Or.inr rfl)) (.bool true))⟩
      | true =>
        by_cases hv : rm < v
        · skip
          go_enter Yba.func16, Yba.ntmps16
          go_wp2_with fail
          refine hroom.mono ?_
          rintro e w2 ⟨rfl, q, rfl⟩
          go_wp2
          (try simp only [Exit.inBlock, Exit.then]); first | (refine bodyPost_ret (results_none rfl _ _ _) rfl ?_) | (refine bodyPost_end (results_none rfl _ _ _) rfl ?_)
          exact ⟨rfl, ⟨v, true, fun h => absurd h ho, fun _ => ⟨(accR_gt hv).symm, rfl⟩, v, true, fun _ => ⟨rfl, rfl⟩, fun h => (by cases h), ((HA.out.drewN q).set n1 v)⟩, ((((Kept.refl (fun k => k = RB ∨ k = OB) w).drewN q).setCell (p := ⟨RB, 0, none⟩) (Or.inl (Or.inl rfl)) (.int .i64 v)).setCell (p := ⟨OB, 0, none⟩) (Or.inl (Or.inr rfl)) (.bool true))⟩
        · have hvl : v ≤ rm := by omega
          go_enter Yba.func16, Yba.ntmps16
          go_wp2_with fail
          refine hroom.mono ?_
          rintro e w2 ⟨rfl, q, rfl⟩
          go_wp2
          (try simp only [Exit.inBlock, Exit.then]); first | (refine bodyPost_ret (results_none rfl _ _ _) rfl ?_) | (refine bodyPost_end (results_none rfl _ _ _) rfl ?_)
          exact ⟨rfl, ⟨rm, true, fun h => absurd h ho, fun _ => ⟨(accR_le hvl).symm, rfl⟩, rm, true, fun _ => ⟨rfl, rfl⟩, fun h => (by cases h), (HA.out.drewN q)⟩, ((Kept.refl (fun k => k = RB ∨ k = OB) w).drewN q)⟩
  · have HM : Hid (∀ w1, Kept (fun k => k = RB ∨ k = OB) w w1 → Calls Yba.prog 18 #[.pointer (some ⟨PB, 0, none⟩), .pointer (some ⟨G, o', none⟩)] w1 fun e w' => e = .returned (.int .i64 (if mr < mi - clk then mi - clk else mr)) ∧ ∃ q, w' = w1.drewN q) := fun w1 hk =>
      mostRoom w1 PB C G o' clk mr mi ⟨(hk.cell (p := ⟨PB, 1, none⟩) l2 (by simp; omega)).trans hP.ptr, (hk.cell (p := ⟨C, 0, none⟩) l3 (by simp; omega)).trans hP.clk⟩ ((hk.cell (p := ⟨G, o' + 5, none⟩) l1 (by simp; omega)).trans hmr) ((hk.cell (p := ⟨G, o' + 6, none⟩) l1 (by simp; omega)).trans hmi) b1 b3
    generalize (if mr < mi - clk then mi - clk else mr) = v2 at HM ⊢
    clear hA hP h0 h1 hmr hmi
    by_cases hfv : fst = 9223372036854775807
    · subst hfv
      obtain rfl : tk = false := by cases tk <;> simp_all
      clear HM
      by_cases ho : own = 9223372036854775807
      · subst ho
        go_enter Yba.func16, Yba.ntmps16
        go_wp2_with fail
        refine hroom.mono ?_
        rintro e w2 ⟨rfl, q, rfl⟩
        go_wp2
        (try simp only [Exit.inBlock, Exit.then]); first | (refine bodyPost_ret (results_none rfl _ _ _) rfl ?_) | (refine bodyPost_end (results_none rfl _ _ _) rfl ?_)
        exact ⟨rfl, ⟨rm, ok, fun _ => ⟨rfl, rfl⟩, fun h => absurd rfl h, rm, ok, fun _ => ⟨rfl, rfl⟩, fun h => (by cases h), (HA.out.drewN q)⟩, ((Kept.refl (fun k => k = RB ∨ k = OB) w).drewN q)⟩
      · cases ok with
        | false =>
          go_enter Yba.func16, Yba.ntmps16
          go_wp2_with fail
          refine hroom.mono ?_
          rintro e w2 ⟨rfl, q, rfl⟩
          go_wp2
          (try simp only [Exit.inBlock, Exit.then]); first | (refine bodyPost_ret (results_none rfl _ _ _) rfl ?_) | (refine bodyPost_end (results_none rfl _ _ _) rfl ?_)
          exact ⟨rfl, ⟨v, true, fun h => absurd h ho, fun _ => ⟨(accR_no _ _).symm, rfl⟩, v, true, fun _ => ⟨rfl, rfl⟩, fun h => (by cases h), ((HA.out.drewN q).set n1 v)⟩, ((((Kept.refl (fun k => k = RB ∨ k = OB) w).drewN q).setCell (p := ⟨RB, 0, none⟩) (Or.inl (Or.inl rfl)) (.int .i64 v)).setCell (p := ⟨OB, 0, none⟩) (Or.inl (Or.inr rfl)) (.bool true))⟩
        | true =>
          by_cases hv : rm < v
          · skip
            go_enter Yba.func16, Yba.ntmps16
            go_wp2_with fail
            refine hroom.mono ?_
            rintro e w2 ⟨rfl, q, rfl⟩
            go_wp2
            (try simp only [Exit.inBlock, Exit.then]); first | (refine bodyPost_ret (results_none rfl _ _ _) rfl ?_) | (refine bodyPost_end (results_none rfl _ _ _) rfl ?_)
            exact ⟨rfl, ⟨v, true, fun h => absurd h ho, fun _ => ⟨(accR_gt hv).symm, rfl⟩, v, true, fun _ => ⟨rfl, rfl⟩, fun h => (by cases h), ((HA.out.drewN q).set n1 v)⟩, ((((Kept.refl (fun k => k = RB ∨ k = OB) w).drewN q).setCell (p := ⟨RB, 0, none⟩) (Or.inl (Or.inl rfl)) (.int .i64 v)).setCell (p := ⟨OB, 0, none⟩) (Or.inl (Or.inr rfl)) (.bool true))⟩
          · have hvl : v ≤ rm := by omega
            go_enter Yba.func16, Yba.ntmps16
            go_wp2_with fail
            refine hroom.mono ?_
            rintro e w2 ⟨rfl, q, rfl⟩
            go_wp2
            (try simp only [Exit.inBlock, Exit.then]); first | (refine bodyPost_ret (results_none rfl _ _ _) rfl ?_) | (refine bodyPost_end (results_none rfl _ _ _) rfl ?_)
            exact ⟨rfl, ⟨rm, true, fun h => absurd h ho, fun _ => ⟨(accR_le hvl).symm, rfl⟩, rm, true, fun _ => ⟨rfl, rfl⟩, fun h => (by cases h), (HA.out.drewN q)⟩, ((Kept.refl (fun k => k = RB ∨ k = OB) w).drewN q)⟩
    · obtain rfl : tk = true := htk.2 hfv
      clear htk
      by_cases ho : own = 9223372036854775807
      · subst ho
        cases ok with
        | false =>
          go_enter Yba.func16, Yba.ntmps16
          go_wp2_with fail
          refine hroom.mono ?_
          rintro e w2 ⟨rfl, q, rfl⟩
          go_wp2_with (go_at_call 18; refine (HM.out _ ((Kept.refl (fun k => k = RB ∨ k = OB) w).drewN q)).mono ?_; rintro e w3 ⟨rfl, q2, rfl⟩)
          have HA2 := hide (HA.out.drewN (q + q2))
          have HK2 := hide ((Kept.refl (fun k => k = RB ∨ k = OB) w).drewN (q + q2))
          (try simp only [Exit.inBlock, Exit.then]); first | (refine bodyPost_ret (results_none rfl _ _ _) rfl ?_) | (refine bodyPost_end (results_none rfl _ _ _) rfl ?_)
          exact ⟨rfl, ⟨rm, _, fun _ => ⟨rfl, rfl⟩, fun h => absurd rfl h, v2, true, fun h => (by cases h), fun _ => ⟨(accR_no _ _).symm, rfl⟩, HA2.out.set n1 v2⟩, (HK2.out.setCell (p := ⟨RB, 0, none⟩) (Or.inl (Or.inl rfl)) _).setCell (p := ⟨OB, 0, none⟩) (Or.inl (Or.inr rfl)) _⟩
        | true =>
          by_cases hz : rm < v2
          · skip
            go_enter Yba.func16, Yba.ntmps16
            go_wp2_with fail
            refine hroom.mono ?_
            rintro e w2 ⟨rfl, q, rfl⟩
            go_wp2_with (go_at_call 18; refine (HM.out _ ((Kept.refl (fun k => k = RB ∨ k = OB) w).drewN q)).mono ?_; rintro e w3 ⟨rfl, q2, rfl⟩)
            have HA2 := hide (HA.out.drewN (q + q2))
            have HK2 := hide ((Kept.refl (fun k => k = RB ∨ k = OB) w).drewN (q + q2))
            (try simp only [Exit.inBlock, Exit.then]); first | (refine bodyPost_ret (results_none rfl _ _ _) rfl ?_) | (refine bodyPost_end (results_none rfl _ _ _) rfl ?_)
            exact ⟨rfl, ⟨rm, _, fun _ => ⟨rfl, rfl⟩, fun h => absurd rfl h, v2, true, fun h => (by cases h), fun _ => ⟨(accR_gt hz).symm, rfl⟩, HA2.out.set n1 v2⟩, (HK2.out.setCell (p := ⟨RB, 0, none⟩) (Or.inl (Or.inl rfl)) _).setCell (p := ⟨OB, 0, none⟩) (Or.inl (Or.inr rfl)) _⟩
          · have hzl : v2 ≤ rm := by omega
            go_enter Yba.func16, Yba.ntmps16
            go_wp2_with fail
            refine hroom.mono ?_
            rintro e w2 ⟨rfl, q, rfl⟩
            go_wp2_with (go_at_call 18; refine (HM.out _ ((Kept.refl (fun k => k = RB ∨ k = OB) w).drewN q)).mono ?_; rintro e w3 ⟨rfl, q2, rfl⟩)
            have HA2 := hide (HA.out.drewN (q + q2))
            have HK2 := hide ((Kept.refl (fun k => k = RB ∨ k = OB) w).drewN (q + q2))
            (try simp only [Exit.inBlock, Exit.then]); first | (refine bodyPost_ret (results_none rfl _ _ _) rfl ?_) | (refine bodyPost_end (results_none rfl _ _ _) rfl ?_)
            exact ⟨rfl, ⟨rm, _, fun _ => ⟨rfl, rfl⟩, fun h => absurd rfl h, rm, true, fun h => (by cases h), fun _ => ⟨(accR_le hzl).symm, rfl⟩, HA2.out⟩, HK2.out⟩
      · cases ok with
        | false =>
          by_cases hz : v < v2
          · skip
            go_enter Yba.func16, Yba.ntmps16
            go_wp2_with fail
            refine hroom.mono ?_
            rintro e w2 ⟨rfl, q, rfl⟩
            go_wp2_with (go_at_call 18; refine (HM.out _ ((((Kept.refl (fun k => k = RB ∨ k = OB) w).drewN q).setCell (p := ⟨RB, 0, none⟩) (Or.inl (Or.inl rfl)) (.int .i64 v)).setCell (p := ⟨OB, 0, none⟩) (Or.inl (Or.inr rfl)) (.bool true))).mono ?_; rintro e w3 ⟨rfl, q2, rfl⟩)
            have HA2 := hide ((((HA.out.drewN q).set n1 v)).drewN q2)
            have HK2 := hide ((((((Kept.refl (fun k => k = RB ∨ k = OB) w).drewN q).setCell (p := ⟨RB, 0, none⟩) (Or.inl (Or.inl rfl)) (.int .i64 v)).setCell (p := ⟨OB, 0, none⟩) (Or.inl (Or.inr rfl)) (.bool true))).drewN q2)
            (try simp only [Exit.inBlock, Exit.then]); first | (refine bodyPost_ret (results_none rfl _ _ _) rfl ?_) | (refine bodyPost_end (results_none rfl _ _ _) rfl ?_)
            exact ⟨rfl, ⟨v, _, fun h => absurd h ho, fun _ => ⟨(accR_no _ _).symm, rfl⟩, v2, true, fun h => (by cases h), fun _ => ⟨(accR_gt hz).symm, rfl⟩, HA2.out.set n1 v2⟩, (HK2.out.setCell (p := ⟨RB, 0, none⟩) (Or.inl (Or.inl rfl)) _).setCell (p := ⟨OB, 0, none⟩) (Or.inl (Or.inr rfl)) _⟩
          · have hzl : v2 ≤ v := by omega
            go_enter Yba.func16, Yba.ntmps16
            go_wp2_with fail
            refine hroom.mono ?_
            rintro e w2 ⟨rfl, q, rfl⟩
            go_wp2_with (go_at_call 18; refine (HM.out _ ((((Kept.refl (fun k => k = RB ∨ k = OB) w).drewN q).setCell (p := ⟨RB, 0, none⟩) (Or.inl (Or.inl rfl)) (.int .i64 v)).setCell (p := ⟨OB, 0, none⟩) (Or.inl (Or.inr rfl)) (.bool true))).mono ?_; rintro e w3 ⟨rfl, q2, rfl⟩)
            have HA2 := hide ((((HA.out.drewN q).set n1 v)).drewN q2)
            have HK2 := hide ((((((Kept.refl (fun k => k = RB ∨ k = OB) w).drewN q).setCell (p := ⟨RB, 0, none⟩) (Or.inl (Or.inl rfl)) (.int .i64 v)).setCell (p := ⟨OB, 0, none⟩) (Or.inl (Or.inr rfl)) (.bool true))).drewN q2)
            (try simp only [Exit.inBlock, Exit.then]); first | (refine bodyPost_ret (results_none rfl _ _ _) rfl ?_) | (refine bodyPost_end (results_none rfl _ _ _) rfl ?_)
            exact ⟨rfl, ⟨v, _, fun h => absurd h ho, fun _ => ⟨(accR_no _ _).symm, rfl⟩, v, true, fun h => (by cases h), fun _ => ⟨(accR_le hzl).symm, rfl⟩, HA2.out⟩, HK2.out⟩
        | true =>
          by_cases hv : rm < v
          · skip
            by_cases hz : v < v2
            · skip
              go_enter Yba.func16, Yba.ntmps16
              go_wp2_with fail
              refine hroom.mono ?_
              rintro e w2 ⟨rfl, q, rfl⟩
              go_wp2_with (go_at_call 18; refine (HM.out _ ((((Kept.refl (fun k => k = RB ∨ k = OB) w).drewN q).setCell (p := ⟨RB, 0, none⟩) (Or.inl (Or.inl rfl)) (.int .i64 v)).setCell (p := ⟨OB, 0, none⟩) (Or.inl (Or.inr rfl)) (.bool true))).mono ?_; rintro e w3 ⟨rfl, q2, rfl⟩)
              have HA2 := hide ((((HA.out.drewN q).set n1 v)).drewN q2)
              have HK2 := hide ((((((Kept.refl (fun k => k = RB ∨ k = OB) w).drewN q).setCell (p := ⟨RB, 0, none⟩) (Or.inl (Or.inl rfl)) (.int .i64 v)).setCell (p := ⟨OB, 0, none⟩) (Or.inl (Or.inr rfl)) (.bool true))).drewN q2)
              (try simp only [Exit.inBlock, Exit.then]); first | (refine bodyPost_ret (results_none rfl _ _ _) rfl ?_) | (refine bodyPost_end (results_none rfl _ _ _) rfl ?_)
              exact ⟨rfl, ⟨v, _, fun h => absurd h ho, fun _ => ⟨(accR_gt hv).symm, rfl⟩, v2, true, fun h => (by cases h), fun _ => ⟨(accR_gt hz).symm, rfl⟩, HA2.out.set n1 v2⟩, (HK2.out.setCell (p := ⟨RB, 0, none⟩) (Or.inl (Or.inl rfl)) _).setCell (p := ⟨OB, 0, none⟩) (Or.inl (Or.inr rfl)) _⟩
            · have hzl : v2 ≤ v := by omega
              go_enter Yba.func16, Yba.ntmps16
              go_wp2_with fail
              refine hroom.mono ?_
              rintro e w2 ⟨rfl, q, rfl⟩
              go_wp2_with (go_at_call 18; refine (HM.out _ ((((Kept.refl (fun k => k = RB ∨ k = OB) w).drewN q).setCell (p := ⟨RB, 0, none⟩) (Or.inl (Or.inl rfl)) (.int .i64 v)).setCell (p := ⟨OB, 0, none⟩) (Or.inl (Or.inr rfl)) (.bool true))).mono ?_; rintro e w3 ⟨rfl, q2, rfl⟩)
              have HA2 := hide ((((HA.out.drewN q).set n1 v)).drewN q2)
              have HK2 := hide ((((((Kept.refl (fun k => k = RB ∨ k = OB) w).drewN q).setCell (p := ⟨RB, 0, none⟩) (Or.inl (Or.inl rfl)) (.int .i64 v)).setCell (p := ⟨OB, 0, none⟩) (Or.inl (Or.inr rfl)) (.bool true))).drewN q2)
              (try simp only [Exit.inBlock, Exit.then]); first | (refine bodyPost_ret (results_none rfl _ _ _) rfl ?_) | (refine bodyPost_end (results_none rfl _ _ _) rfl ?_)
              exact ⟨rfl, ⟨v, _, fun h => absurd h ho, fun _ => ⟨(accR_gt hv).symm, rfl⟩, v, true, fun h => (by cases h), fun _ => ⟨(accR_le hzl).symm, rfl⟩, HA2.out⟩, HK2.out⟩
          · have hvl : v ≤ rm := by omega
            by_cases hz : rm < v2
            · skip
              go_enter Yba.func16, Yba.ntmps16
              go_wp2_with fail
              refine hroom.mono ?_
              rintro e w2 ⟨rfl, q, rfl⟩
              go_wp2_with (go_at_call 18; refine (HM.out _ ((Kept.refl (fun k => k = RB ∨ k = OB) w).drewN q)).mono ?_; rintro e w3 ⟨rfl, q2, rfl⟩)
              have HA2 := hide (HA.out.drewN (q + q2))
              have HK2 := hide ((Kept.refl (fun k => k = RB ∨ k = OB) w).drewN (q + q2))
              (try simp only [Exit.inBlock, Exit.then]); first | (refine bodyPost_ret (results_none rfl _ _ _) rfl ?_) | (refine bodyPost_end (results_none rfl _ _ _) rfl ?_)
              exact ⟨rfl, ⟨rm, _, fun h => absurd h ho, fun _ => ⟨(accR_le hvl).symm, rfl⟩, v2, true, fun h => (by cases h), fun _ => ⟨(accR_gt hz).symm, rfl⟩, HA2.out.set n1 v2⟩, (HK2.out.setCell (p := ⟨RB, 0, none⟩) (Or.inl (Or.inl rfl)) _).setCell (p := ⟨OB, 0, none⟩) (Or.inl (Or.inr rfl)) _⟩
            · have hzl : v2 ≤ rm := by omega
              go_enter Yba.func16, Yba.ntmps16
              go_wp2_with fail
              refine hroom.mono ?_
              rintro e w2 ⟨rfl, q, rfl⟩
              go_wp2_with (go_at_call 18; refine (HM.out _ ((Kept.refl (fun k => k = RB ∨ k = OB) w).drewN q)).mono ?_; rintro e w3 ⟨rfl, q2, rfl⟩)
              have HA2 := hide (HA.out.drewN (q + q2))
              have HK2 := hide ((Kept.refl (fun k => k = RB ∨ k = OB) w).drewN (q + q2))
              (try simp only [Exit.inBlock, Exit.then]); first | (refine bodyPost_ret (results_none rfl _ _ _) rfl ?_) | (refine bodyPost_end (results_none rfl _ _ _) rfl ?_)
              exact ⟨rfl, ⟨rm, _, fun h => absurd h ho, fun _ => ⟨(accR_le hvl).symm, rfl⟩, rm, true, fun h => (by cases h), fun _ => ⟨(accR_le hzl).symm, rfl⟩, HA2.out⟩, HK2.out⟩
end Go.Proofs.Ybulkefry
