import Derived.Test.YbulkefryB6
namespace Go.Proofs.Ybulkefry
open Go.RowKit

theorem Fig.joinM {M M' : Int × Int × Bool → Prop} {a b c a' b' c' : Int} (h : Fig M a b c) (k : Fig M' a' b' c') : Fig (fun x => M x ∨ M' x) (min a a') (max b b') (max c c') := by
  have e1 : min a a' = if a' < a then a' else a := by split <;> omega
  have e2 : max b b' = if b < b' then b' else b := by split <;> omega
  have e3 : max c c' = if c < c' then c' else c := by split <;> omega
  rw [e1, e2, e3]
  exact h.join k
theorem Nds.alloc {w : World} {S G N k : Nat} {nd : Nat → Nat → Int} (h : Nds w S G N k nd) (o : Obj) : Nds (w.alloc o) S G N k nd where
  var := (Go.heap_alloc_old w o (Array.getElem?_eq_some_iff.1 h.var).1).trans h.var
  row := h.row.same (Go.heap_alloc_old w o h.row.lt)
theorem Nds.set {w : World} {S G N K : Nat} {nd : Nat → Nat → Int} (h : Nds w S G N K nd) (nSG : S ≠ G) (k s : Nat) (hk : k < N) (hs : s < 11) (v : Int) : Nds (w.setCell ⟨G, k * 11 + s, none⟩ (.int (kd s) v)) S G N K (upd nd k s v) where
  var := (Below.heap_setCell _ _ _ _ nSG).trans h.var
  row := h.row.set k s hk hs v
/-- the six numbers that are written last -/
def fin6 (nd : Nat → Nat → Int) (k : Nat) (r1 r2 fst mr mi ls : Int) : Nat → Nat → Int := upd (upd (upd (upd (upd (upd nd k 8 r1) k 9 r2) k 3 fst) k 5 mr) k 6 mi) k 4 ls
def finW (w : World) (G k : Nat) (r1 r2 fst mr mi ls : Int) : World := ((((((w.setCell ⟨G, k * 11 + 8, none⟩ (.int .i32 r1)).setCell ⟨G, k * 11 + 9, none⟩ (.int .i32 r2)).setCell ⟨G, k * 11 + 3, none⟩ (.int .i64 fst)).setCell ⟨G, k * 11 + 5, none⟩ (.int .i64 mr)).setCell ⟨G, k * 11 + 6, none⟩ (.int .i64 mi)).setCell ⟨G, k * 11 + 4, none⟩ (.int .i64 ls))
theorem finW_nds {w : World} {S G N K : Nat} {nd : Nat → Nat → Int} (h : Nds w S G N K nd) (nSG : S ≠ G) (k : Nat) (hk : k < N) (r1 r2 fst mr mi ls : Int) : Nds (finW w G k r1 r2 fst mr mi ls) S G N K (fin6 nd k r1 r2 fst mr mi ls) :=
  (((((h.set nSG k 8 hk (by omega) r1).set nSG k 9 hk (by omega) r2).set nSG k 3 hk (by omega) fst).set nSG k 5 hk (by omega) mr).set nSG k 6 hk (by omega) mi).set nSG k 4 hk (by omega) ls
theorem finW_kept {a w : World} {S G : Nat} (h : Kept (fun j => j = S ∨ j = G) a w) (k : Nat) (r1 r2 fst mr mi ls : Int) : Kept (fun j => j = S ∨ j = G) a (finW w G k r1 r2 fst mr mi ls) :=
  (((((h.setCell (p := ⟨G, k * 11 + 8, none⟩) (.inl (.inr rfl)) _).setCell (p := ⟨G, k * 11 + 9, none⟩) (.inl (.inr rfl)) _).setCell (p := ⟨G, k * 11 + 3, none⟩) (.inl (.inr rfl)) _).setCell (p := ⟨G, k * 11 + 5, none⟩) (.inl (.inr rfl)) _).setCell (p := ⟨G, k * 11 + 6, none⟩) (.inl (.inr rfl)) _).setCell (p := ⟨G, k * 11 + 4, none⟩) (.inl (.inr rfl)) _
theorem fin6_other (nd : Nat → Nat → Int) (k : Nat) (r1 r2 fst mr mi ls : Int) (j t : Nat) (hj : j ≠ k) : fin6 nd k r1 r2 fst mr mi ls j t = nd j t := by simp [fin6, upd, hj]
theorem fin_tr {nd : Nat → Nat → Int} {k K m b1 f1 f2 a2 : Nat} {r1 r2 fst mr mi ls : Int} {c : Int × Int × Bool} {L R D : List (Int × Int × Bool)} (hk : 0 < k) (hkK : k < K) (e0 : nd k 0 = c.1) (e1 : nd k 1 = c.2.1) (e2 : nd k 2 = 9223372036854775807 ↔ c.2.2 = true)
    (hD : D = L ++ c :: R) (hF : Fig (fun y => y ∈ D) fst mr mi) (hL : Tr nd b1 f1 (k + 1) r1 L) (hb1 : b1 ≤ K) (hf1 : f1 ≤ m) (hR : Tr nd K f2 a2 r2 R) (ha2 : k + 1 ≤ a2) (hf2 : f2 ≤ m) :
    Tr (fin6 nd k r1 r2 fst mr mi ls) K (m + 1) k (k : Int) D := by
  refine .inr ⟨k, L, c, R, rfl, hk, Nat.le_refl _, hkK, hD, ?_, ?_, ?_, ?_, ?_, ?_⟩
  · rw [← e0]; simp [fin6, upd]
  · rw [← e1]; simp [fin6, upd]
  · rw [← e2]; simp [fin6, upd]
  · have a1 : fin6 nd k r1 r2 fst mr mi ls k 3 = fst := by simp [fin6, upd]
    have a2 : fin6 nd k r1 r2 fst mr mi ls k 5 = mr := by simp [fin6, upd]
    have a3 : fin6 nd k r1 r2 fst mr mi ls k 6 = mi := by simp [fin6, upd]
    rw [a1, a2, a3]
    exact hF
  · have a1 : fin6 nd k r1 r2 fst mr mi ls k 8 = r1 := by simp [fin6, upd]
    rw [a1]
    exact Tr.le hf1 (hL.congr hb1 _ _ _ _ _ (Nat.le_refl _) (fun j hj _ t => fin6_other nd k r1 r2 fst mr mi ls j t (by omega)))
  · have a1 : fin6 nd k r1 r2 fst mr mi ls k 9 = r2 := by simp [fin6, upd]
    rw [a1]
    exact Tr.le hf2 (hR.congr (Nat.le_refl _) _ _ _ _ _ ha2 (fun j hj _ t => fin6_other nd k r1 r2 fst mr mi ls j t (by omega)))

theorem ix0 (a b : Int) (w : World) : (Instr.index 48 (.agg #[.int .i32 a, .int .i32 b]) (.int .i64 0)).run Yba.prog w = .ok (.int .i32 a) w := by
  simp [Instr.index, go_sem, run_underlying Yba.underlying48, part]
theorem ix1 (a b : Int) (w : World) : (Instr.index 48 (.agg #[.int .i32 a, .int .i32 b]) (.int .i64 1)).run Yba.prog w = .ok (.int .i32 b) w := by
  simp [Instr.index, go_sem, run_underlying Yba.underlying48, part]

/-- 'cs[mid+1:]' -/
theorem cut_run (CB o m cap q : Nat) (hq : q + 1 ≤ m) (hcap : m ≤ cap) : ∃ o2, (0 < m - (q + 1) → o2 = o + (q + 1) * 3) ∧ ∀ w : World, (Instr.slice 22 (.slice (some ⟨CB, o, none⟩) m cap) (some (.int .i64 ((q : Int) + 1))) none none).run Yba.prog w = .ok (.slice (some ⟨CB, o2, none⟩) (m - (q + 1)) (cap - (q + 1))) w := by
  have h := fun w => run_slice_l (P := Yba.prog) w 22 (some ⟨CB, o, none⟩) m cap Yba.underlying22 .i64 ((q : Int) + 1) (by omega) (by omega)
  have e : ((q : Int) + 1).toNat = q + 1 := by omega
  have hs : ∀ w, (Go.sizeOf (Yba.prog.elem 22)).run Yba.prog w = .ok 3 w := Yba.sizeOf25
  by_cases hc : cap - (q + 1) = 0
  · refine ⟨o, fun h0 => by omega, fun w => ?_⟩
    rw [h, hs, Result.andThen_ok, e]
    have hce : cap = q + 1 := by omega
    simp [sliced, hce]
  · refine ⟨o + (q + 1) * 3, fun _ => rfl, fun w => ?_⟩
    rw [h, hs, Result.andThen_ok, e]
    have hce : ¬ cap = q + 1 := by omega
    simp [sliced, hce, Addr.add_lit]

set_option maxRecDepth 100000 in
set_option maxHeartbeats 40000000 in
theorem build (m : Nat) : ∀ (w : World) (S G N k CB o cap : Nat) (base par : Int) (nd : Nat → Nat → Int) (d : Nat → Int × Int × Bool), k + m ≤ N → N ≤ 65537 → 0 < k → (0 ≤ base ∧ base + m ≤ 65536) → S ≠ G → CB ≠ S → CB ≠ G → S < w.heap.size → (0 < m → CB < w.heap.size) → Nds w S G N k nd →
    (∀ i, i < m → w.cell? ⟨CB, o + i * 3, none⟩ = some (.int .i32 (d i).1) ∧ w.cell? ⟨CB, o + i * 3 + 1, none⟩ = some (.int .i32 (d i).2.1) ∧ w.cell? ⟨CB, o + i * 3 + 2, none⟩ = some (.bool (d i).2.2)) →
    (∀ i, i < m → (-2147483648 ≤ (d i).1 ∧ (d i).1 ≤ 2147483647) ∧ (-2147483648 ≤ (d i).2.1 ∧ (d i).2.1 ≤ 2147483647)) → m ≤ cap →
    Calls Yba.prog 8 #[.pointer (some ⟨S, 0, none⟩), .slice (some ⟨CB, o, none⟩) m cap, .int .i64 base, .int .i32 par] w fun e w' =>
      ∃ (r : Int) (nd' : Nat → Nat → Int), e = .returned (.int .i32 r) ∧ Nds w' S G N (k + m) nd' ∧ (∀ j, j < k → ∀ t, nd' j t = nd j t) ∧ Tr nd' (k + m) (m + 1) k r ((List.range m).map d) ∧ (-2147483648 ≤ r ∧ r ≤ 2147483647) ∧ Kept (fun j => j = S ∨ j = G) w w' := by
  induction m using Nat.strongRecOn with
  | _ m ih =>
  intro w S G N k CB o cap base par nd d hkN hN hk hbase nSG nCS nCG lS lCB hNd hcs hbd hcap
  have HI := hide ih
  clear ih
  by_cases hm : m = 0
  · subst hm
    clear hcs
    go_enter Yba.func8, Yba.ntmps8
    go_wp2
    go_ret
    exact ⟨0, nd, rfl, hNd, fun _ _ _ => rfl, .inl ⟨rfl, rfl⟩, by omega, Kept.refl _ _⟩
  · have hq : m / 2 < m := by omega
    obtain ⟨z0, z1, z2⟩ := hcs (m / 2) hq
    obtain ⟨⟨y1, y2⟩, y3, y4⟩ := hbd (m / 2) hq
    have hv := hNd.var
    have hg := hNd.row.lt
    have s1 : w.cell? ⟨S, 0, none⟩ = some (.slice (some ⟨G, 0, none⟩) k N) := by rw [cell_of_row w S 0 _ 29 _ hv]; rfl
    have s2 : w.frozen? ⟨S, 0, none⟩ = false := by simp [World.frozen?, hv]
    have lC := lCB (by omega)
    have HV := hide hv
    have HCS := hide hcs
    have HBD := hide hbd
    have HND := hide hNd
    clear hv hcs hbd hNd lCB
    have fg : ∀ i, w.frozen? ⟨G, i, none⟩ = false := by
      obtain ⟨cur, hc, _⟩ := HND.out.row
      intro i
      simp [World.frozen?, hc]
    have hkN' : k < N := by omega
    have g0 : w.cell? ⟨G, k * 11, none⟩ = some (.int .i64 (nd k 0)) := HND.out.row.cell (t := 0) hkN' (by omega)
    have g1 : w.cell? ⟨G, k * 11 + 1, none⟩ = some (.int .i64 (nd k 1)) := HND.out.row.cell (t := 1) hkN' (by omega)
    have g2 : w.cell? ⟨G, k * 11 + 2, none⟩ = some (.int .i64 (nd k 2)) := HND.out.row.cell (t := 2) hkN' (by omega)
    have g3 : w.cell? ⟨G, k * 11 + 3, none⟩ = some (.int .i64 (nd k 3)) := HND.out.row.cell (t := 3) hkN' (by omega)
    have g4 : w.cell? ⟨G, k * 11 + 4, none⟩ = some (.int .i64 (nd k 4)) := HND.out.row.cell (t := 4) hkN' (by omega)
    have g5 : w.cell? ⟨G, k * 11 + 5, none⟩ = some (.int .i64 (nd k 5)) := HND.out.row.cell (t := 5) hkN' (by omega)
    have g6 : w.cell? ⟨G, k * 11 + 6, none⟩ = some (.int .i64 (nd k 6)) := HND.out.row.cell (t := 6) hkN' (by omega)
    have g7 : w.cell? ⟨G, k * 11 + 7, none⟩ = some (.int .u64 (nd k 7)) := HND.out.row.cell (t := 7) hkN' (by omega)
    have g8 : w.cell? ⟨G, k * 11 + 8, none⟩ = some (.int .i32 (nd k 8)) := HND.out.row.cell (t := 8) hkN' (by omega)
    have g9 : w.cell? ⟨G, k * 11 + 9, none⟩ = some (.int .i32 (nd k 9)) := HND.out.row.cell (t := 9) hkN' (by omega)
    have g10 : w.cell? ⟨G, k * 11 + 10, none⟩ = some (.int .i32 (nd k 10)) := HND.out.row.cell (t := 10) hkN' (by omega)
    have HDC := hide (show d (m / 2) = ((d (m / 2)).1, (d (m / 2)).2.1, (d (m / 2)).2.2) from rfl)
    generalize (d (m / 2)).1 = ld at *
    generalize (d (m / 2)).2.1 = rmc at *
    generalize (d (m / 2)).2.2 = vc at *
    have w1 : IntKind.i64.wrap ld = ld := by simp [IntKind.wrap, IntKind.bits, IntKind.signed]; omega
    have w2 : IntKind.i64.wrap rmc = rmc := by simp [IntKind.wrap, IntKind.bits, IntKind.signed]; omega
    have w3 : IntKind.u64.wrap (m : Int) = m := by simp [IntKind.wrap, IntKind.bits, IntKind.signed]; omega
    have nGS := nSG.symm
    have HQ2 : Hid (m = m / 2 + 1 + (m - (m / 2 + 1))) := by show m = m / 2 + 1 + (m - (m / 2 + 1)); omega
    obtain ⟨o2, ho2, hcut⟩ := cut_run CB o m cap (m / 2) (by omega) hcap
    rw [show ((m / 2 : Nat) : Int) = (m : Int) / 2 by omega] at hcut
    have HO2 := hide ho2
    clear ho2
    cases vc with
    | true =>
      go_enter Yba.func8, Yba.ntmps8
      go_wp2
      go_region
      change Exit.then _ _ _ _ (appW w S G N k ld rmc 9223372036854775807 m par true)
      obtain ⟨nd3, u1, u2, u3, u4, hN3, hK3, hc3, hz3⟩ := appW_facts HND.out nSG hkN' ld rmc 9223372036854775807 m par true
      generalize appW w S G N k ld rmc 9223372036854775807 m par true = W3 at *
      have hcW : Hid (W3.heap[w.heap.size]? = some (.cells #[.int .i32 ld, .int .i32 rmc, .bool true] 25 (0, 0))) := hc3
      have HN3 := hide hN3
      have HK3 := hide hK3
      have U1 := hide u1
      have U2 := hide u2
      have U3 := hide u3
      have U4 := hide u4
      clear hN3 hK3 u1 u2 u3 u4 hc3 g0 g1 g2 g3 g4 g5 g6 g7 g8 g9 g10 fg s1 s2 z0 z1 z2
      go_wp2_with fail
      refine (HI.out (m / 2) hq W3 S G N (k + 1) CB o cap base k nd3 d (by omega) hN (by omega) (by omega) nSG nCS nCG (by omega) (fun _ => by omega) HN3.out (fun i hi => ?_) (fun i hi => HBD.out i (by omega)) (by omega)).mono ?_
      · rw [HK3.out.cell (p := ⟨CB, o + i * 3, none⟩) lC (by simp; omega), HK3.out.cell (p := ⟨CB, o + i * 3 + 1, none⟩) lC (by simp; omega), HK3.out.cell (p := ⟨CB, o + i * 3 + 2, none⟩) lC (by simp; omega)]
        exact HCS.out i (by omega)
      rintro e W4 ⟨r1, nd4, rfl, hN4, hk4, hT4, hr1, hK4⟩
      have HN4 := hide hN4
      have HU4 := hide hk4
      have HT4 := hide hT4
      have hz4 := hK4.size
      have HK4 := hide (HK3.out.trans hK4)
      have hcW4 : Hid (W4.heap[w.heap.size]? = some (.cells #[.int .i32 ld, .int .i32 rmc, .bool true] 25 (0, 0))) := (hK4.block w.heap.size (by omega) (by omega)).trans hcW.out
      clear hN4 hk4 hT4 hK4
      go_wp2_with fail
      refine (HI.out (m - (m / 2 + 1)) (by omega) W4 S G N (k + 1 + m / 2) CB o2 (cap - (m / 2 + 1)) (base + (m : Int) / 2 + 1) k nd4 (fun i => d (m / 2 + 1 + i)) (by omega) hN (by omega) (by omega) nSG nCS nCG (by omega) (fun _ => by omega) HN4.out (fun i hi => ?_) (fun i hi => HBD.out (m / 2 + 1 + i) (by omega)) (by omega)).mono ?_
      · have e2 : o2 + i * 3 = o + (m / 2 + 1 + i) * 3 := by rw [HO2.out (by omega)]; omega
        rw [e2, HK4.out.cell (p := ⟨CB, o + (m / 2 + 1 + i) * 3, none⟩) lC (by simp; omega), HK4.out.cell (p := ⟨CB, o + (m / 2 + 1 + i) * 3 + 1, none⟩) lC (by simp; omega), HK4.out.cell (p := ⟨CB, o + (m / 2 + 1 + i) * 3 + 2, none⟩) lC (by simp; omega)]
        exact HCS.out (m / 2 + 1 + i) (by omega)
      rintro e W5 ⟨r2, nd5, rfl, hN5, hk5, hT5, hr2, hK5⟩
      rw [show k + 1 + m / 2 + (m - (m / 2 + 1)) = k + m by omega] at hN5 hT5
      have HN5 := hide hN5
      have HT5 := hide hT5
      have hz5 := hK5.size
      have HT45 : Hid (Tr nd5 (k + 1 + m / 2) (m / 2 + 1) (k + 1) r1 ((List.range (m / 2)).map d)) := HT4.out.congr (Nat.le_refl _) _ _ _ _ _ (Nat.le_refl _) (fun j _ hj t => hk5 j hj t)
      have V0 : Hid (nd5 k 0 = ld) := ((hk5 k (by omega) 0).trans (HU4.out k (by omega) 0)).trans U2.out
      have V1 : Hid (nd5 k 1 = rmc) := ((hk5 k (by omega) 1).trans (HU4.out k (by omega) 1)).trans U3.out
      have V2 : Hid (nd5 k 2 = 9223372036854775807) := ((hk5 k (by omega) 2).trans (HU4.out k (by omega) 2)).trans U4.out
      have VK : Hid (∀ j, j < k → ∀ t, nd5 j t = nd j t) := fun j hj t => ((hk5 j (by omega) t).trans (HU4.out j (by omega) t)).trans (U1.out j (by omega) t)
      have HK5 := hide (HK4.out.trans hK5)
      have hc5 : W5.heap[w.heap.size]? = some (.cells #[.int .i32 ld, .int .i32 rmc, .bool true] 25 (0, 0)) := (hK5.block w.heap.size (by omega) (by omega)).trans hcW4.out
      have x0 : W5.cell? ⟨w.heap.size, 0, none⟩ = some (.int .i32 ld) := by rw [cell_of_row W5 w.heap.size 0 _ 25 _ hc5]; rfl
      have x1 : W5.cell? ⟨w.heap.size, 1, none⟩ = some (.int .i32 rmc) := by rw [cell_of_row W5 w.heap.size 1 _ 25 _ hc5]; rfl
      have xS : W5.cell? ⟨S, 0, none⟩ = some (.slice (some ⟨G, 0, none⟩) (k + m) N) := by rw [cell_of_row W5 S 0 _ 29 _ hN5.var]; rfl
      clear hN5 hk5 hT5 hK5 hc5 HI HN4 HT4 HK4 HU4 hcW4 hcW HN3 HK3 U1 U2 U3 U4 hcut HO2
      go_wp2
      have HF0 := hide (show Fig (fun y => y = (ld, rmc, true)) (9223372036854775807) (-4611686018427387904) (-4611686018427387904) from by
        have := Fig.one (ld, rmc, true) 9223372036854775807 (by omega) (by simp) (by show _ ≤ rmc; omega)
        simpa using this)
      generalize hgL : (List.range (m / 2)).map d = LL at *
      generalize hgR : (List.range (m - (m / 2 + 1))).map (fun i => d (m / 2 + 1 + i)) = RR at *
      have HGL := hide hgL
      have HGR := hide hgR
      clear hgL hgR x0 x1 xS w1 w2 w3
      go_loopw [16, 17, 18, 19, 103] (fun a b c e i wr => ∃ (n : Nat) (fst mr mi ls : Int), n ≤ 2 ∧ i = .int .i64 n ∧ a = .int .i64 fst ∧ b = .int .i64 mr ∧ c = .int .i64 mi ∧ e = .int .i64 ls ∧ Hid (Fig (fun y => (y = (ld, rmc, true) ∨ (0 < n ∧ y ∈ LL)) ∨ (1 < n ∧ y ∈ RR)) fst mr mi) ∧ Hid (Nds wr S G N (k + m) nd5) ∧ Hid (Kept (fun j => j = S ∨ j = G) w wr)) (fun _ _ _ _ i _ => 2 - (intOf i).toNat)
      case atStart => exact ⟨0, 9223372036854775807, (-4611686018427387904), (-4611686018427387904), ld, by omega, rfl, rfl, rfl, rfl, rfl, HF0.out.congr (fun y => by simp), HN5, HK5⟩
      case round =>
        obtain ⟨n, fst, mr, mi, ls, hn, rfl, rfl, rfl, rfl, rfl, iF, iN, iK⟩ := hrel
        rcases (show n = 0 ∨ n = 1 ∨ n = 2 by omega) with rfl | rfl | rfl
        · by_cases hr0 : r1 = 0
          · subst hr0
            have hLL := hide HT45.out.zero
            have hix := ix0 0 r2
            go_wp2
            exact ⟨⟨1, fst, mr, mi, ls, by omega, rfl, rfl, rfl, rfl, rfl, iF.out.congr (fun y => by simp [hLL.out]), iN, iK⟩, by simp [intOf]⟩
          · obtain ⟨_, j1, _, _, _, hj1, hj0, _, hjK, _, _, _, _, hFj, _, _⟩ := HT45.out.node hr0
            subst hj1
            have v0 : wr.cell? ⟨G, j1 * 11, none⟩ = some (.int .i64 (nd5 j1 0)) := iN.out.row.cell (t := 0) (by omega) (by omega)
            have v1 : wr.cell? ⟨G, j1 * 11 + 1, none⟩ = some (.int .i64 (nd5 j1 1)) := iN.out.row.cell (t := 1) (by omega) (by omega)
            have v2 : wr.cell? ⟨G, j1 * 11 + 2, none⟩ = some (.int .i64 (nd5 j1 2)) := iN.out.row.cell (t := 2) (by omega) (by omega)
            have v3 : wr.cell? ⟨G, j1 * 11 + 3, none⟩ = some (.int .i64 (nd5 j1 3)) := iN.out.row.cell (t := 3) (by omega) (by omega)
            have v4 : wr.cell? ⟨G, j1 * 11 + 4, none⟩ = some (.int .i64 (nd5 j1 4)) := iN.out.row.cell (t := 4) (by omega) (by omega)
            have v5 : wr.cell? ⟨G, j1 * 11 + 5, none⟩ = some (.int .i64 (nd5 j1 5)) := iN.out.row.cell (t := 5) (by omega) (by omega)
            have v6 : wr.cell? ⟨G, j1 * 11 + 6, none⟩ = some (.int .i64 (nd5 j1 6)) := iN.out.row.cell (t := 6) (by omega) (by omega)
            have HFJ := hide hFj
            have hix := ix0 j1 r2
            clear hFj
            go_wp2
            exact ⟨⟨1, _, _, _, _, by omega, rfl, rfl, rfl, rfl, rfl, (iF.out.joinM HFJ.out).congr (fun y => by simp), iN.out.alloc _, iK.out.alloc _⟩, by simp [intOf]⟩
        · by_cases hr0 : r2 = 0
          · subst hr0
            have hLL := hide HT5.out.zero
            have hix := ix1 r1 0
            go_wp2
            exact ⟨⟨2, fst, mr, mi, ls, by omega, rfl, rfl, rfl, rfl, rfl, iF.out.congr (fun y => by simp [hLL.out]), iN, iK⟩, by simp [intOf]⟩
          · obtain ⟨_, j1, _, _, _, hj1, hj0, _, hjK, _, _, _, _, hFj, _, _⟩ := HT5.out.node hr0
            subst hj1
            have v0 : wr.cell? ⟨G, j1 * 11, none⟩ = some (.int .i64 (nd5 j1 0)) := iN.out.row.cell (t := 0) (by omega) (by omega)
            have v1 : wr.cell? ⟨G, j1 * 11 + 1, none⟩ = some (.int .i64 (nd5 j1 1)) := iN.out.row.cell (t := 1) (by omega) (by omega)
            have v2 : wr.cell? ⟨G, j1 * 11 + 2, none⟩ = some (.int .i64 (nd5 j1 2)) := iN.out.row.cell (t := 2) (by omega) (by omega)
            have v3 : wr.cell? ⟨G, j1 * 11 + 3, none⟩ = some (.int .i64 (nd5 j1 3)) := iN.out.row.cell (t := 3) (by omega) (by omega)
            have v4 : wr.cell? ⟨G, j1 * 11 + 4, none⟩ = some (.int .i64 (nd5 j1 4)) := iN.out.row.cell (t := 4) (by omega) (by omega)
            have v5 : wr.cell? ⟨G, j1 * 11 + 5, none⟩ = some (.int .i64 (nd5 j1 5)) := iN.out.row.cell (t := 5) (by omega) (by omega)
            have v6 : wr.cell? ⟨G, j1 * 11 + 6, none⟩ = some (.int .i64 (nd5 j1 6)) := iN.out.row.cell (t := 6) (by omega) (by omega)
            have HFJ := hide hFj
            have hix := ix1 r1 j1
            clear hFj
            go_wp2
            exact ⟨⟨2, _, _, _, _, by omega, rfl, rfl, rfl, rfl, rfl, (iF.out.joinM HFJ.out).congr (fun y => by simp), iN.out.alloc _, iK.out.alloc _⟩, by simp [intOf]⟩
        · have fg : ∀ i, wr.frozen? ⟨G, i, none⟩ = false := by
            obtain ⟨cur, hc, _⟩ := iN.out.row
            intro i
            simp [World.frozen?, hc]
          have h3 : wr.cell? ⟨G, k * 11 + 3, none⟩ = some (.int .i64 (nd5 k 3)) := iN.out.row.cell (t := 3) (by omega) (by omega)
          have h4 : wr.cell? ⟨G, k * 11 + 4, none⟩ = some (.int .i64 (nd5 k 4)) := iN.out.row.cell (t := 4) (by omega) (by omega)
          have h5 : wr.cell? ⟨G, k * 11 + 5, none⟩ = some (.int .i64 (nd5 k 5)) := iN.out.row.cell (t := 5) (by omega) (by omega)
          have h6 : wr.cell? ⟨G, k * 11 + 6, none⟩ = some (.int .i64 (nd5 k 6)) := iN.out.row.cell (t := 6) (by omega) (by omega)
          have h8 : wr.cell? ⟨G, k * 11 + 8, none⟩ = some (.int .i32 (nd5 k 8)) := iN.out.row.cell (t := 8) (by omega) (by omega)
          have h9 : wr.cell? ⟨G, k * 11 + 9, none⟩ = some (.int .i32 (nd5 k 9)) := iN.out.row.cell (t := 9) (by omega) (by omega)
          go_wp2
          go_ret
          refine ⟨k, fin6 nd5 k r1 r2 fst mr mi ls, rfl, finW_nds iN.out nSG k (by omega) r1 r2 fst mr mi ls, fun j hj t => (fin6_other nd5 k r1 r2 fst mr mi ls j t (by omega)).trans (VK.out j hj t), ?_, by omega, finW_kept iK.out k r1 r2 fst mr mi ls⟩
          have hD : (List.range m).map d = LL ++ (ld, rmc, true) :: RR := by
            rw [← HGL.out, ← HGR.out]
            have := range_split d (m / 2) (m - (m / 2 + 1))
            rw [← HQ2.out, HDC.out] at this
            exact this
          exact fin_tr hk (by omega) V0.out V1.out (by rw [V2.out]; simp; try omega) hD (iF.out.congr (fun y => by rw [hD]; simp [or_comm, or_left_comm])) HT45.out (by omega) (by omega) HT5.out (by omega) (by omega)
    | false =>
      by_cases hld : ld = 0
      · subst hld
        go_enter Yba.func8, Yba.ntmps8
        go_wp2
        go_region
        change Exit.then _ _ _ _ (appW w S G N k (0 : Int) rmc (base + (m : Int) / 2) m par false)
        obtain ⟨nd3, u1, u2, u3, u4, hN3, hK3, hc3, hz3⟩ := appW_facts HND.out nSG hkN' (0 : Int) rmc (base + (m : Int) / 2) m par false
        generalize appW w S G N k (0 : Int) rmc (base + (m : Int) / 2) m par false = W3 at *
        have hcW : Hid (W3.heap[w.heap.size]? = some (.cells #[.int .i32 (0 : Int), .int .i32 rmc, .bool false] 25 (0, 0))) := hc3
        have HN3 := hide hN3
        have HK3 := hide hK3
        have U1 := hide u1
        have U2 := hide u2
        have U3 := hide u3
        have U4 := hide u4
        clear hN3 hK3 u1 u2 u3 u4 hc3 g0 g1 g2 g3 g4 g5 g6 g7 g8 g9 g10 fg s1 s2 z0 z1 z2
        go_wp2_with fail
        refine (HI.out (m / 2) hq W3 S G N (k + 1) CB o cap base k nd3 d (by omega) hN (by omega) (by omega) nSG nCS nCG (by omega) (fun _ => by omega) HN3.out (fun i hi => ?_) (fun i hi => HBD.out i (by omega)) (by omega)).mono ?_
        · rw [HK3.out.cell (p := ⟨CB, o + i * 3, none⟩) lC (by simp; omega), HK3.out.cell (p := ⟨CB, o + i * 3 + 1, none⟩) lC (by simp; omega), HK3.out.cell (p := ⟨CB, o + i * 3 + 2, none⟩) lC (by simp; omega)]
          exact HCS.out i (by omega)
        rintro e W4 ⟨r1, nd4, rfl, hN4, hk4, hT4, hr1, hK4⟩
        have HN4 := hide hN4
        have HU4 := hide hk4
        have HT4 := hide hT4
        have hz4 := hK4.size
        have HK4 := hide (HK3.out.trans hK4)
        have hcW4 : Hid (W4.heap[w.heap.size]? = some (.cells #[.int .i32 (0 : Int), .int .i32 rmc, .bool false] 25 (0, 0))) := (hK4.block w.heap.size (by omega) (by omega)).trans hcW.out
        clear hN4 hk4 hT4 hK4
        go_wp2_with fail
        refine (HI.out (m - (m / 2 + 1)) (by omega) W4 S G N (k + 1 + m / 2) CB o2 (cap - (m / 2 + 1)) (base + (m : Int) / 2 + 1) k nd4 (fun i => d (m / 2 + 1 + i)) (by omega) hN (by omega) (by omega) nSG nCS nCG (by omega) (fun _ => by omega) HN4.out (fun i hi => ?_) (fun i hi => HBD.out (m / 2 + 1 + i) (by omega)) (by omega)).mono ?_
        · have e2 : o2 + i * 3 = o + (m / 2 + 1 + i) * 3 := by rw [HO2.out (by omega)]; omega
          rw [e2, HK4.out.cell (p := ⟨CB, o + (m / 2 + 1 + i) * 3, none⟩) lC (by simp; omega), HK4.out.cell (p := ⟨CB, o + (m / 2 + 1 + i) * 3 + 1, none⟩) lC (by simp; omega), HK4.out.cell (p := ⟨CB, o + (m / 2 + 1 + i) * 3 + 2, none⟩) lC (by simp; omega)]
          exact HCS.out (m / 2 + 1 + i) (by omega)
        rintro e W5 ⟨r2, nd5, rfl, hN5, hk5, hT5, hr2, hK5⟩
        rw [show k + 1 + m / 2 + (m - (m / 2 + 1)) = k + m by omega] at hN5 hT5
        have HN5 := hide hN5
        have HT5 := hide hT5
        have hz5 := hK5.size
        have HT45 : Hid (Tr nd5 (k + 1 + m / 2) (m / 2 + 1) (k + 1) r1 ((List.range (m / 2)).map d)) := HT4.out.congr (Nat.le_refl _) _ _ _ _ _ (Nat.le_refl _) (fun j _ hj t => hk5 j hj t)
        have V0 : Hid (nd5 k 0 = (0 : Int)) := ((hk5 k (by omega) 0).trans (HU4.out k (by omega) 0)).trans U2.out
        have V1 : Hid (nd5 k 1 = rmc) := ((hk5 k (by omega) 1).trans (HU4.out k (by omega) 1)).trans U3.out
        have V2 : Hid (nd5 k 2 = (base + (m : Int) / 2)) := ((hk5 k (by omega) 2).trans (HU4.out k (by omega) 2)).trans U4.out
        have VK : Hid (∀ j, j < k → ∀ t, nd5 j t = nd j t) := fun j hj t => ((hk5 j (by omega) t).trans (HU4.out j (by omega) t)).trans (U1.out j (by omega) t)
        have HK5 := hide (HK4.out.trans hK5)
        have hc5 : W5.heap[w.heap.size]? = some (.cells #[.int .i32 (0 : Int), .int .i32 rmc, .bool false] 25 (0, 0)) := (hK5.block w.heap.size (by omega) (by omega)).trans hcW4.out
        have x0 : W5.cell? ⟨w.heap.size, 0, none⟩ = some (.int .i32 (0 : Int)) := by rw [cell_of_row W5 w.heap.size 0 _ 25 _ hc5]; rfl
        have x1 : W5.cell? ⟨w.heap.size, 1, none⟩ = some (.int .i32 rmc) := by rw [cell_of_row W5 w.heap.size 1 _ 25 _ hc5]; rfl
        have xS : W5.cell? ⟨S, 0, none⟩ = some (.slice (some ⟨G, 0, none⟩) (k + m) N) := by rw [cell_of_row W5 S 0 _ 29 _ hN5.var]; rfl
        clear hN5 hk5 hT5 hK5 hc5 HI HN4 HT4 HK4 HU4 hcW4 hcW HN3 HK3 U1 U2 U3 U4 hcut HO2
        have ho1 : ((base + (m : Int) / 2) != 9223372036854775807) = true := by simp; omega
        go_wp2
        have HF0 := hide (show Fig (fun y => y = ((0 : Int), rmc, false)) ((base + (m : Int) / 2)) (-4611686018427387904) rmc from by
          have := Fig.one ((0 : Int), rmc, false) (base + (m : Int) / 2) (by omega) (by simp; omega) (by show _ ≤ rmc; omega)
          simpa using this)
        generalize hgL : (List.range (m / 2)).map d = LL at *
        generalize hgR : (List.range (m - (m / 2 + 1))).map (fun i => d (m / 2 + 1 + i)) = RR at *
        have HGL := hide hgL
        have HGR := hide hgR
        clear hgL hgR x0 x1 xS w1 w2 w3
        go_loopw [16, 17, 18, 19, 103] (fun a b c e i wr => ∃ (n : Nat) (fst mr mi ls : Int), n ≤ 2 ∧ i = .int .i64 n ∧ a = .int .i64 fst ∧ b = .int .i64 mr ∧ c = .int .i64 mi ∧ e = .int .i64 ls ∧ Hid (Fig (fun y => (y = ((0 : Int), rmc, false) ∨ (0 < n ∧ y ∈ LL)) ∨ (1 < n ∧ y ∈ RR)) fst mr mi) ∧ Hid (Nds wr S G N (k + m) nd5) ∧ Hid (Kept (fun j => j = S ∨ j = G) w wr)) (fun _ _ _ _ i _ => 2 - (intOf i).toNat)
        case atStart => exact ⟨0, (base + (m : Int) / 2), (-4611686018427387904), rmc, (0 : Int), by omega, rfl, rfl, rfl, rfl, rfl, HF0.out.congr (fun y => by simp), HN5, HK5⟩
        case round =>
          obtain ⟨n, fst, mr, mi, ls, hn, rfl, rfl, rfl, rfl, rfl, iF, iN, iK⟩ := hrel
          rcases (show n = 0 ∨ n = 1 ∨ n = 2 by omega) with rfl | rfl | rfl
          · by_cases hr0 : r1 = 0
            · subst hr0
              have hLL := hide HT45.out.zero
              have hix := ix0 0 r2
              go_wp2
              exact ⟨⟨1, fst, mr, mi, ls, by omega, rfl, rfl, rfl, rfl, rfl, iF.out.congr (fun y => by simp [hLL.out]), iN, iK⟩, by simp [intOf]⟩
            · obtain ⟨_, j1, _, _, _, hj1, hj0, _, hjK, _, _, _, _, hFj, _, _⟩ := HT45.out.node hr0
              subst hj1
              have v0 : wr.cell? ⟨G, j1 * 11, none⟩ = some (.int .i64 (nd5 j1 0)) := iN.out.row.cell (t := 0) (by omega) (by omega)
              have v1 : wr.cell? ⟨G, j1 * 11 + 1, none⟩ = some (.int .i64 (nd5 j1 1)) := iN.out.row.cell (t := 1) (by omega) (by omega)
              have v2 : wr.cell? ⟨G, j1 * 11 + 2, none⟩ = some (.int .i64 (nd5 j1 2)) := iN.out.row.cell (t := 2) (by omega) (by omega)
              have v3 : wr.cell? ⟨G, j1 * 11 + 3, none⟩ = some (.int .i64 (nd5 j1 3)) := iN.out.row.cell (t := 3) (by omega) (by omega)
              have v4 : wr.cell? ⟨G, j1 * 11 + 4, none⟩ = some (.int .i64 (nd5 j1 4)) := iN.out.row.cell (t := 4) (by omega) (by omega)
              have v5 : wr.cell? ⟨G, j1 * 11 + 5, none⟩ = some (.int .i64 (nd5 j1 5)) := iN.out.row.cell (t := 5) (by omega) (by omega)
              have v6 : wr.cell? ⟨G, j1 * 11 + 6, none⟩ = some (.int .i64 (nd5 j1 6)) := iN.out.row.cell (t := 6) (by omega) (by omega)
              have HFJ := hide hFj
              have hix := ix0 j1 r2
              clear hFj
              go_wp2
              exact ⟨⟨1, _, _, _, _, by omega, rfl, rfl, rfl, rfl, rfl, (iF.out.joinM HFJ.out).congr (fun y => by simp), iN.out.alloc _, iK.out.alloc _⟩, by simp [intOf]⟩
          · by_cases hr0 : r2 = 0
            · subst hr0
              have hLL := hide HT5.out.zero
              have hix := ix1 r1 0
              go_wp2
              exact ⟨⟨2, fst, mr, mi, ls, by omega, rfl, rfl, rfl, rfl, rfl, iF.out.congr (fun y => by simp [hLL.out]), iN, iK⟩, by simp [intOf]⟩
            · obtain ⟨_, j1, _, _, _, hj1, hj0, _, hjK, _, _, _, _, hFj, _, _⟩ := HT5.out.node hr0
              subst hj1
              have v0 : wr.cell? ⟨G, j1 * 11, none⟩ = some (.int .i64 (nd5 j1 0)) := iN.out.row.cell (t := 0) (by omega) (by omega)
              have v1 : wr.cell? ⟨G, j1 * 11 + 1, none⟩ = some (.int .i64 (nd5 j1 1)) := iN.out.row.cell (t := 1) (by omega) (by omega)
              have v2 : wr.cell? ⟨G, j1 * 11 + 2, none⟩ = some (.int .i64 (nd5 j1 2)) := iN.out.row.cell (t := 2) (by omega) (by omega)
              have v3 : wr.cell? ⟨G, j1 * 11 + 3, none⟩ = some (.int .i64 (nd5 j1 3)) := iN.out.row.cell (t := 3) (by omega) (by omega)
              have v4 : wr.cell? ⟨G, j1 * 11 + 4, none⟩ = some (.int .i64 (nd5 j1 4)) := iN.out.row.cell (t := 4) (by omega) (by omega)
              have v5 : wr.cell? ⟨G, j1 * 11 + 5, none⟩ = some (.int .i64 (nd5 j1 5)) := iN.out.row.cell (t := 5) (by omega) (by omega)
              have v6 : wr.cell? ⟨G, j1 * 11 + 6, none⟩ = some (.int .i64 (nd5 j1 6)) := iN.out.row.cell (t := 6) (by omega) (by omega)
              have HFJ := hide hFj
              have hix := ix1 r1 j1
              clear hFj
              go_wp2
              exact ⟨⟨2, _, _, _, _, by omega, rfl, rfl, rfl, rfl, rfl, (iF.out.joinM HFJ.out).congr (fun y => by simp), iN.out.alloc _, iK.out.alloc _⟩, by simp [intOf]⟩
          · have fg : ∀ i, wr.frozen? ⟨G, i, none⟩ = false := by
              obtain ⟨cur, hc, _⟩ := iN.out.row
              intro i
              simp [World.frozen?, hc]
            have h3 : wr.cell? ⟨G, k * 11 + 3, none⟩ = some (.int .i64 (nd5 k 3)) := iN.out.row.cell (t := 3) (by omega) (by omega)
            have h4 : wr.cell? ⟨G, k * 11 + 4, none⟩ = some (.int .i64 (nd5 k 4)) := iN.out.row.cell (t := 4) (by omega) (by omega)
            have h5 : wr.cell? ⟨G, k * 11 + 5, none⟩ = some (.int .i64 (nd5 k 5)) := iN.out.row.cell (t := 5) (by omega) (by omega)
            have h6 : wr.cell? ⟨G, k * 11 + 6, none⟩ = some (.int .i64 (nd5 k 6)) := iN.out.row.cell (t := 6) (by omega) (by omega)
            have h8 : wr.cell? ⟨G, k * 11 + 8, none⟩ = some (.int .i32 (nd5 k 8)) := iN.out.row.cell (t := 8) (by omega) (by omega)
            have h9 : wr.cell? ⟨G, k * 11 + 9, none⟩ = some (.int .i32 (nd5 k 9)) := iN.out.row.cell (t := 9) (by omega) (by omega)
            go_wp2
            go_ret
            refine ⟨k, fin6 nd5 k r1 r2 fst mr mi ls, rfl, finW_nds iN.out nSG k (by omega) r1 r2 fst mr mi ls, fun j hj t => (fin6_other nd5 k r1 r2 fst mr mi ls j t (by omega)).trans (VK.out j hj t), ?_, by omega, finW_kept iK.out k r1 r2 fst mr mi ls⟩
            have hD : (List.range m).map d = LL ++ ((0 : Int), rmc, false) :: RR := by
              rw [← HGL.out, ← HGR.out]
              have := range_split d (m / 2) (m - (m / 2 + 1))
              rw [← HQ2.out, HDC.out] at this
              exact this
            exact fin_tr hk (by omega) V0.out V1.out (by rw [V2.out]; simp; try omega) hD (iF.out.congr (fun y => by rw [hD]; simp [or_comm, or_left_comm])) HT45.out (by omega) (by omega) HT5.out (by omega) (by omega)
      · go_enter Yba.func8, Yba.ntmps8
        go_wp2
        go_region
        change Exit.then _ _ _ _ (appW w S G N k ld rmc (base + (m : Int) / 2) m par false)
        obtain ⟨nd3, u1, u2, u3, u4, hN3, hK3, hc3, hz3⟩ := appW_facts HND.out nSG hkN' ld rmc (base + (m : Int) / 2) m par false
        generalize appW w S G N k ld rmc (base + (m : Int) / 2) m par false = W3 at *
        have hcW : Hid (W3.heap[w.heap.size]? = some (.cells #[.int .i32 ld, .int .i32 rmc, .bool false] 25 (0, 0))) := hc3
        have HN3 := hide hN3
        have HK3 := hide hK3
        have U1 := hide u1
        have U2 := hide u2
        have U3 := hide u3
        have U4 := hide u4
        clear hN3 hK3 u1 u2 u3 u4 hc3 g0 g1 g2 g3 g4 g5 g6 g7 g8 g9 g10 fg s1 s2 z0 z1 z2
        go_wp2_with fail
        refine (HI.out (m / 2) hq W3 S G N (k + 1) CB o cap base k nd3 d (by omega) hN (by omega) (by omega) nSG nCS nCG (by omega) (fun _ => by omega) HN3.out (fun i hi => ?_) (fun i hi => HBD.out i (by omega)) (by omega)).mono ?_
        · rw [HK3.out.cell (p := ⟨CB, o + i * 3, none⟩) lC (by simp; omega), HK3.out.cell (p := ⟨CB, o + i * 3 + 1, none⟩) lC (by simp; omega), HK3.out.cell (p := ⟨CB, o + i * 3 + 2, none⟩) lC (by simp; omega)]
          exact HCS.out i (by omega)
        rintro e W4 ⟨r1, nd4, rfl, hN4, hk4, hT4, hr1, hK4⟩
        have HN4 := hide hN4
        have HU4 := hide hk4
        have HT4 := hide hT4
        have hz4 := hK4.size
        have HK4 := hide (HK3.out.trans hK4)
        have hcW4 : Hid (W4.heap[w.heap.size]? = some (.cells #[.int .i32 ld, .int .i32 rmc, .bool false] 25 (0, 0))) := (hK4.block w.heap.size (by omega) (by omega)).trans hcW.out
        clear hN4 hk4 hT4 hK4
        go_wp2_with fail
        refine (HI.out (m - (m / 2 + 1)) (by omega) W4 S G N (k + 1 + m / 2) CB o2 (cap - (m / 2 + 1)) (base + (m : Int) / 2 + 1) k nd4 (fun i => d (m / 2 + 1 + i)) (by omega) hN (by omega) (by omega) nSG nCS nCG (by omega) (fun _ => by omega) HN4.out (fun i hi => ?_) (fun i hi => HBD.out (m / 2 + 1 + i) (by omega)) (by omega)).mono ?_
        · have e2 : o2 + i * 3 = o + (m / 2 + 1 + i) * 3 := by rw [HO2.out (by omega)]; omega
          rw [e2, HK4.out.cell (p := ⟨CB, o + (m / 2 + 1 + i) * 3, none⟩) lC (by simp; omega), HK4.out.cell (p := ⟨CB, o + (m / 2 + 1 + i) * 3 + 1, none⟩) lC (by simp; omega), HK4.out.cell (p := ⟨CB, o + (m / 2 + 1 + i) * 3 + 2, none⟩) lC (by simp; omega)]
          exact HCS.out (m / 2 + 1 + i) (by omega)
        rintro e W5 ⟨r2, nd5, rfl, hN5, hk5, hT5, hr2, hK5⟩
        rw [show k + 1 + m / 2 + (m - (m / 2 + 1)) = k + m by omega] at hN5 hT5
        have HN5 := hide hN5
        have HT5 := hide hT5
        have hz5 := hK5.size
        have HT45 : Hid (Tr nd5 (k + 1 + m / 2) (m / 2 + 1) (k + 1) r1 ((List.range (m / 2)).map d)) := HT4.out.congr (Nat.le_refl _) _ _ _ _ _ (Nat.le_refl _) (fun j _ hj t => hk5 j hj t)
        have V0 : Hid (nd5 k 0 = ld) := ((hk5 k (by omega) 0).trans (HU4.out k (by omega) 0)).trans U2.out
        have V1 : Hid (nd5 k 1 = rmc) := ((hk5 k (by omega) 1).trans (HU4.out k (by omega) 1)).trans U3.out
        have V2 : Hid (nd5 k 2 = (base + (m : Int) / 2)) := ((hk5 k (by omega) 2).trans (HU4.out k (by omega) 2)).trans U4.out
        have VK : Hid (∀ j, j < k → ∀ t, nd5 j t = nd j t) := fun j hj t => ((hk5 j (by omega) t).trans (HU4.out j (by omega) t)).trans (U1.out j (by omega) t)
        have HK5 := hide (HK4.out.trans hK5)
        have hc5 : W5.heap[w.heap.size]? = some (.cells #[.int .i32 ld, .int .i32 rmc, .bool false] 25 (0, 0)) := (hK5.block w.heap.size (by omega) (by omega)).trans hcW4.out
        have x0 : W5.cell? ⟨w.heap.size, 0, none⟩ = some (.int .i32 ld) := by rw [cell_of_row W5 w.heap.size 0 _ 25 _ hc5]; rfl
        have x1 : W5.cell? ⟨w.heap.size, 1, none⟩ = some (.int .i32 rmc) := by rw [cell_of_row W5 w.heap.size 1 _ 25 _ hc5]; rfl
        have xS : W5.cell? ⟨S, 0, none⟩ = some (.slice (some ⟨G, 0, none⟩) (k + m) N) := by rw [cell_of_row W5 S 0 _ 29 _ hN5.var]; rfl
        clear hN5 hk5 hT5 hK5 hc5 HI HN4 HT4 HK4 HU4 hcW4 hcW HN3 HK3 U1 U2 U3 U4 hcut HO2
        have hld2 : (ld == 0) = false := by simp [hld]
        have ho1 : ((base + (m : Int) / 2) != 9223372036854775807) = true := by simp; omega
        go_wp2
        have HF0 := hide (show Fig (fun y => y = (ld, rmc, false)) ((base + (m : Int) / 2)) rmc (-4611686018427387904) from by
          have := Fig.one (ld, rmc, false) (base + (m : Int) / 2) (by omega) (by simp; omega) (by show _ ≤ rmc; omega)
          simpa [hld] using this)
        generalize hgL : (List.range (m / 2)).map d = LL at *
        generalize hgR : (List.range (m - (m / 2 + 1))).map (fun i => d (m / 2 + 1 + i)) = RR at *
        have HGL := hide hgL
        have HGR := hide hgR
        clear hgL hgR x0 x1 xS w1 w2 w3
        go_loopw [16, 17, 18, 19, 103] (fun a b c e i wr => ∃ (n : Nat) (fst mr mi ls : Int), n ≤ 2 ∧ i = .int .i64 n ∧ a = .int .i64 fst ∧ b = .int .i64 mr ∧ c = .int .i64 mi ∧ e = .int .i64 ls ∧ Hid (Fig (fun y => (y = (ld, rmc, false) ∨ (0 < n ∧ y ∈ LL)) ∨ (1 < n ∧ y ∈ RR)) fst mr mi) ∧ Hid (Nds wr S G N (k + m) nd5) ∧ Hid (Kept (fun j => j = S ∨ j = G) w wr)) (fun _ _ _ _ i _ => 2 - (intOf i).toNat)
        case atStart => exact ⟨0, (base + (m : Int) / 2), rmc, (-4611686018427387904), ld, by omega, rfl, rfl, rfl, rfl, rfl, HF0.out.congr (fun y => by simp), HN5, HK5⟩
        case round =>
          obtain ⟨n, fst, mr, mi, ls, hn, rfl, rfl, rfl, rfl, rfl, iF, iN, iK⟩ := hrel
          rcases (show n = 0 ∨ n = 1 ∨ n = 2 by omega) with rfl | rfl | rfl
          · by_cases hr0 : r1 = 0
            · subst hr0
              have hLL := hide HT45.out.zero
              have hix := ix0 0 r2
              go_wp2
              exact ⟨⟨1, fst, mr, mi, ls, by omega, rfl, rfl, rfl, rfl, rfl, iF.out.congr (fun y => by simp [hLL.out]), iN, iK⟩, by simp [intOf]⟩
            · obtain ⟨_, j1, _, _, _, hj1, hj0, _, hjK, _, _, _, _, hFj, _, _⟩ := HT45.out.node hr0
              subst hj1
              have v0 : wr.cell? ⟨G, j1 * 11, none⟩ = some (.int .i64 (nd5 j1 0)) := iN.out.row.cell (t := 0) (by omega) (by omega)
              have v1 : wr.cell? ⟨G, j1 * 11 + 1, none⟩ = some (.int .i64 (nd5 j1 1)) := iN.out.row.cell (t := 1) (by omega) (by omega)
              have v2 : wr.cell? ⟨G, j1 * 11 + 2, none⟩ = some (.int .i64 (nd5 j1 2)) := iN.out.row.cell (t := 2) (by omega) (by omega)
              have v3 : wr.cell? ⟨G, j1 * 11 + 3, none⟩ = some (.int .i64 (nd5 j1 3)) := iN.out.row.cell (t := 3) (by omega) (by omega)
              have v4 : wr.cell? ⟨G, j1 * 11 + 4, none⟩ = some (.int .i64 (nd5 j1 4)) := iN.out.row.cell (t := 4) (by omega) (by omega)
              have v5 : wr.cell? ⟨G, j1 * 11 + 5, none⟩ = some (.int .i64 (nd5 j1 5)) := iN.out.row.cell (t := 5) (by omega) (by omega)
              have v6 : wr.cell? ⟨G, j1 * 11 + 6, none⟩ = some (.int .i64 (nd5 j1 6)) := iN.out.row.cell (t := 6) (by omega) (by omega)
              have HFJ := hide hFj
              have hix := ix0 j1 r2
              clear hFj
              go_wp2
              exact ⟨⟨1, _, _, _, _, by omega, rfl, rfl, rfl, rfl, rfl, (iF.out.joinM HFJ.out).congr (fun y => by simp), iN.out.alloc _, iK.out.alloc _⟩, by simp [intOf]⟩
          · by_cases hr0 : r2 = 0
            · subst hr0
              have hLL := hide HT5.out.zero
              have hix := ix1 r1 0
              go_wp2
              exact ⟨⟨2, fst, mr, mi, ls, by omega, rfl, rfl, rfl, rfl, rfl, iF.out.congr (fun y => by simp [hLL.out]), iN, iK⟩, by simp [intOf]⟩
            · obtain ⟨_, j1, _, _, _, hj1, hj0, _, hjK, _, _, _, _, hFj, _, _⟩ := HT5.out.node hr0
              subst hj1
              have v0 : wr.cell? ⟨G, j1 * 11, none⟩ = some (.int .i64 (nd5 j1 0)) := iN.out.row.cell (t := 0) (by omega) (by omega)
              have v1 : wr.cell? ⟨G, j1 * 11 + 1, none⟩ = some (.int .i64 (nd5 j1 1)) := iN.out.row.cell (t := 1) (by omega) (by omega)
              have v2 : wr.cell? ⟨G, j1 * 11 + 2, none⟩ = some (.int .i64 (nd5 j1 2)) := iN.out.row.cell (t := 2) (by omega) (by omega)
              have v3 : wr.cell? ⟨G, j1 * 11 + 3, none⟩ = some (.int .i64 (nd5 j1 3)) := iN.out.row.cell (t := 3) (by omega) (by omega)
              have v4 : wr.cell? ⟨G, j1 * 11 + 4, none⟩ = some (.int .i64 (nd5 j1 4)) := iN.out.row.cell (t := 4) (by omega) (by omega)
              have v5 : wr.cell? ⟨G, j1 * 11 + 5, none⟩ = some (.int .i64 (nd5 j1 5)) := iN.out.row.cell (t := 5) (by omega) (by omega)
              have v6 : wr.cell? ⟨G, j1 * 11 + 6, none⟩ = some (.int .i64 (nd5 j1 6)) := iN.out.row.cell (t := 6) (by omega) (by omega)
              have HFJ := hide hFj
              have hix := ix1 r1 j1
              clear hFj
              go_wp2
              exact ⟨⟨2, _, _, _, _, by omega, rfl, rfl, rfl, rfl, rfl, (iF.out.joinM HFJ.out).congr (fun y => by simp), iN.out.alloc _, iK.out.alloc _⟩, by simp [intOf]⟩
          · have fg : ∀ i, wr.frozen? ⟨G, i, none⟩ = false := by
              obtain ⟨cur, hc, _⟩ := iN.out.row
              intro i
              simp [World.frozen?, hc]
            have h3 : wr.cell? ⟨G, k * 11 + 3, none⟩ = some (.int .i64 (nd5 k 3)) := iN.out.row.cell (t := 3) (by omega) (by omega)
            have h4 : wr.cell? ⟨G, k * 11 + 4, none⟩ = some (.int .i64 (nd5 k 4)) := iN.out.row.cell (t := 4) (by omega) (by omega)
            have h5 : wr.cell? ⟨G, k * 11 + 5, none⟩ = some (.int .i64 (nd5 k 5)) := iN.out.row.cell (t := 5) (by omega) (by omega)
            have h6 : wr.cell? ⟨G, k * 11 + 6, none⟩ = some (.int .i64 (nd5 k 6)) := iN.out.row.cell (t := 6) (by omega) (by omega)
            have h8 : wr.cell? ⟨G, k * 11 + 8, none⟩ = some (.int .i32 (nd5 k 8)) := iN.out.row.cell (t := 8) (by omega) (by omega)
            have h9 : wr.cell? ⟨G, k * 11 + 9, none⟩ = some (.int .i32 (nd5 k 9)) := iN.out.row.cell (t := 9) (by omega) (by omega)
            go_wp2
            go_ret
            refine ⟨k, fin6 nd5 k r1 r2 fst mr mi ls, rfl, finW_nds iN.out nSG k (by omega) r1 r2 fst mr mi ls, fun j hj t => (fin6_other nd5 k r1 r2 fst mr mi ls j t (by omega)).trans (VK.out j hj t), ?_, by omega, finW_kept iK.out k r1 r2 fst mr mi ls⟩
            have hD : (List.range m).map d = LL ++ (ld, rmc, false) :: RR := by
              rw [← HGL.out, ← HGR.out]
              have := range_split d (m / 2) (m - (m / 2 + 1))
              rw [← HQ2.out, HDC.out] at this
              exact this
            exact fin_tr hk (by omega) V0.out V1.out (by rw [V2.out]; simp; try omega) hD (iF.out.congr (fun y => by rw [hD]; simp [or_comm, or_left_comm])) HT45.out (by omega) (by omega) HT5.out (by omega) (by omega)
end Go.Proofs.Ybulkefry
