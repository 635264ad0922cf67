import Derived.Test.YbulkefryB2
import Derived.Test.YbulkefryB3
namespace Go.Proofs.Ybulkefry
open Go.RowKit

/-- the pool as the law makes it -/
structure PoolIs (w : World) (PB C G K N : Nat) (clk root : Int) : Prop where
  pc : ∃ pc : Array Value, w.heap[PB]? = some (.cells pc 50 (0, 0)) ∧ pc[1]? = some (.pointer (some ⟨C, 0, none⟩)) ∧ pc[2]? = some (.slice (some ⟨G, 0, none⟩) K N) ∧ pc[3]? = some (.int .i32 root) ∧ pc[13]? = some (.slice none 0 0)
  ck : w.cell? ⟨C, 0, none⟩ = some (.int .i64 clk)

theorem ms_lt {nd : Nat → Nat → Int} {K f j : Nat} {r : Int} {l : List (Int × Int × Bool)} (h : Tr nd K f (j + 1) r l) (hj : 0 < j) (hjK : j < K) : ms K (.int .i32 r) < ms K (.int .i32 (j : Int)) := by
  show (if r = 0 then 0 else K + 1 - r.toNat) < (if (j : Int) = 0 then 0 else K + 1 - (j : Int).toNat)
  rw [if_neg (show ¬ (j : Int) = 0 by omega)]
  by_cases h0 : r = 0
  · rw [if_pos h0]; omega
  · obtain ⟨_, k, _, _, _, e, _, hk, hkK, _⟩ := h.node h0
    rw [if_neg h0]
    omega

theorem best1 {E : Int → Prop} {rm rm1 own x clk : Int} {ok ok1 : Bool} {c : Int × Int × Bool} (h : Best E rm ok) (hx : c.1 ≤ x) (ho : own = 9223372036854775807 ↔ c.2.2 = true)
    (p1 : own = 9223372036854775807 → rm1 = rm ∧ ok1 = ok) (p2 : own ≠ 9223372036854775807 → rm1 = accR rm ok (if c.1 = 0 then c.2.1 - clk else c.2.1) ∧ ok1 = true) :
    Best (fun v => E v ∨ El x clk (fun y => y = c) v) rm1 ok1 := by
  by_cases hv : own = 9223372036854775807
  · obtain ⟨rfl, rfl⟩ := p1 hv
    refine h.congr fun r => ⟨fun h => h.elim id ?_, .inl⟩
    rintro ⟨y, rfl, h1, _⟩
    rw [ho.1 hv] at h1
    cases h1
  · obtain ⟨rfl, rfl⟩ := p2 hv
    have hc : c.2.2 = false := by
      cases e : c.2.2 with
      | false => rfl
      | true => exact absurd (ho.2 e) hv
    exact h.take (El.one hc hx).1 (El.one hc hx).2

/-- what the left subtree brings -/
def LeftFig (tk : Bool) (v2 x clk : Int) (l : List (Int × Int × Bool)) : Prop :=
  (tk = false → ∀ r, ¬ El x clk (fun y => y ∈ l) r) ∧ (tk = true → El x clk (fun y => y ∈ l) v2 ∧ ∀ r, El x clk (fun y => y ∈ l) r → r ≤ v2)
theorem best2 {E : Int → Prop} {rm rm2 v2 x clk : Int} {ok ok2 tk : Bool} {l : List (Int × Int × Bool)} (h : Best E rm ok) (hl : LeftFig tk v2 x clk l)
    (p1 : tk = false → rm2 = rm ∧ ok2 = ok) (p2 : tk = true → rm2 = accR rm ok v2 ∧ ok2 = true) : Best (fun v => E v ∨ El x clk (fun y => y ∈ l) v) rm2 ok2 := by
  cases tk with
  | false =>
    obtain ⟨rfl, rfl⟩ := p1 rfl
    exact h.congr fun r => ⟨fun h => h.elim id (fun h => absurd h (hl.1 rfl r)), .inl⟩
  | true =>
    obtain ⟨rfl, rfl⟩ := p2 rfl
    exact h.take (hl.2 rfl).1 (hl.2 rfl).2

theorem El.split {x clk : Int} {l t : List (Int × Int × Bool)} {c : Int × Int × Bool} (v : Int) : El x clk (fun y => y ∈ l ++ c :: t) v ↔ (El x clk (fun y => y ∈ l) v ∨ El x clk (fun y => y = c) v ∨ El x clk (fun y => y ∈ t) v) := by
  constructor
  · rintro ⟨y, hy, h⟩
    rcases List.mem_append.1 hy with hy | hy
    · exact .inl ⟨y, hy, h⟩
    · rcases List.mem_cons.1 hy with hy | hy
      · exact .inr (.inl ⟨y, hy, h⟩)
      · exact .inr (.inr ⟨y, hy, h⟩)
  · rintro (⟨y, hy, h⟩ | ⟨y, hy, h⟩ | ⟨y, hy, h⟩)
    · exact ⟨y, List.mem_append.2 (.inl hy), h⟩
    · exact ⟨y, List.mem_append.2 (.inr (List.mem_cons.2 (.inl hy))), h⟩
    · exact ⟨y, List.mem_append.2 (.inr (List.mem_cons.2 (.inr hy))), h⟩

set_option maxRecDepth 100000 in
set_option maxHeartbeats 8000000 in
theorem within (w : World) (PB C G XB RB OB K N : Nat) (clk root x : Int) (nd : Nat → Nat → Int) (d : List (Int × Int × Bool)) (f : Nat) (hP : PoolIs w PB C G K N clk root) (hx : w.cell? ⟨XB, 0, none⟩ = some (.pointer (some ⟨PB, 0, none⟩)))
    (hN : NodesAt w G N K nd) (hT : Tr nd K f 1 root d) (hS : d.Pairwise (fun a b => a.1 ≤ b.1))
    (b1 : -2147483648 ≤ clk ∧ clk ≤ 2147483647) (bd : ∀ c ∈ d, -2147483648 ≤ c.2.1 ∧ c.2.1 ≤ 2147483647)
    (hA : Acc w RB OB 0 false) (n1 : RB ≠ OB) (n3 : RB ≠ G) (n4 : OB ≠ G) (n5 : RB ≠ PB) (n6 : OB ≠ PB) (n7 : RB ≠ C) (n8 : OB ≠ C) (n9 : RB ≠ XB) (n10 : OB ≠ XB) (l2 : PB < w.heap.size) (l3 : C < w.heap.size) (l4 : XB < w.heap.size) :
    Calls Yba.prog 15 #[.pointer (some ⟨PB, 0, none⟩), .int .i64 x, .func (.func 16) #[] #[.pointer (some ⟨XB, 0, none⟩), .pointer (some ⟨OB, 0, none⟩), .pointer (some ⟨RB, 0, none⟩)]] w fun e w' =>
      e = .returned (.tuple #[]) ∧ (∃ rm ok, Best (fun r => clk ≤ x ∧ El x clk (fun c => c ∈ d) r) rm ok ∧ Acc w' RB OB rm ok) ∧ Kept (fun k => k = RB ∨ k = OB) w w' := by
  obtain ⟨⟨pc, hp, hp1, hp2, hp3, hp13⟩, hck⟩ := hP
  have q1 : w.cell? ⟨PB, 1, none⟩ = some (.pointer (some ⟨C, 0, none⟩)) := by rw [cell_of_row w PB 1 pc 50 _ hp, hp1]
  have q2 : w.cell? ⟨PB, 2, none⟩ = some (.slice (some ⟨G, 0, none⟩) K N) := by rw [cell_of_row w PB 2 pc 50 _ hp, hp2]
  have q3 : w.cell? ⟨PB, 3, none⟩ = some (.int .i32 root) := by rw [cell_of_row w PB 3 pc 50 _ hp, hp3]
  have HST := hide (settle w PB pc hp hp13)
  have HN := hide hN
  have hG := hN.lt
  have HT := hide hT
  have HS := hide hS
  have HBD := hide bd
  have HA := hide hA
  have HX := hide hx
  clear hN hT hS bd hA hx hp hp1 hp2 hp3 hp13
  by_cases hxc : x < clk
  · go_enter Yba.func15, Yba.ntmps15
    go_wp2
    (try simp only [Exit.inBlock, Exit.then]); refine bodyPost_ret (results_none rfl _ _ _) rfl ?_
    exact ⟨rfl, ⟨0, false, .inr ⟨rfl, rfl, fun r h => by omega⟩, HA.out⟩, Kept.refl _ _⟩
  have hxc' : decide (x < clk) = false := by simp; omega
  have HXC := hide (show clk ≤ x by omega)
  clear hxc
  have HQ1 := hide q1
  have HCK := hide hck
  go_enter Yba.func15, Yba.ntmps15
  go_wp2_with (go_at_call 29; refine HST.out.mono ?_; rintro e w' ⟨rfl, rfl⟩)
  clear q1 hck hxc' q2 q3
  go_loopw [7] (fun n wr => ∃ (r : Int) (f : Nat) (a : Nat) (dd : List (Int × Int × Bool)) (E : Int → Prop) (rm : Int) (ok : Bool), n = .int .i32 r ∧ Hid (Tr nd K f a r dd) ∧ Hid (dd.Pairwise (fun a b => a.1 ≤ b.1)) ∧ Hid (∀ c ∈ dd, c ∈ d) ∧ Hid (Best E rm ok) ∧ Hid (∀ v, (E v ∨ El x clk (fun c => c ∈ dd) v) ↔ El x clk (fun c => c ∈ d) v) ∧ Hid (Acc wr RB OB rm ok) ∧ Hid (Kept (fun k => k = RB ∨ k = OB) w wr)) (fun n _ => ms K n)
  case atStart => exact ⟨root, f, 1, d, fun _ => False, 0, false, rfl, HT, HS, fun c hc => hc, Best.none, fun v => ⟨fun h => h.elim False.elim id, .inr⟩, HA, Kept.refl _ _⟩
  case round =>
    obtain ⟨r, f', a, dd, E, rm, ok, rfl, iT, iS, iM, iB, iE, iA, iK⟩ := hrel
    by_cases hr0 : r = 0
    · subst hr0
      go_wp2
      go_end0
      refine ⟨rfl, ⟨rm, ok, iB.out.congr fun v => ?_, iA.out⟩, iK.out⟩
      have e := iT.out.zero
      subst e
      rw [← iE.out v]
      exact ⟨fun h => h.2.elim id (fun ⟨c, hc, _⟩ => absurd hc (List.not_mem_nil)), fun h => ⟨HXC.out, .inl h⟩⟩
    · obtain ⟨f2, j, l, c, t, hrj, hj0, haj, hjK, hd, e0, e1, e2, hF, hTl, hTr⟩ := iT.out.node hr0
      subst hrj
      have kc : ∀ t, wr.cell? ⟨G, t, none⟩ = w.cell? ⟨G, t, none⟩ := fun t => iK.out.cell (p := ⟨G, t, none⟩) hG (by simp; omega)
      have z0 : wr.cell? ⟨G, j * 11, none⟩ = some (.int .i64 (nd j 0)) := (kc _).trans (HN.out.cell (t := 0) hjK (by omega))
      have z8 : wr.cell? ⟨G, j * 11 + 8, none⟩ = some (.int .i32 (nd j 8)) := (kc _).trans (HN.out.cell (t := 8) hjK (by omega))
      have z9 : wr.cell? ⟨G, j * 11 + 9, none⟩ = some (.int .i32 (nd j 9)) := (kc _).trans (HN.out.cell (t := 9) hjK (by omega))
      have KC := hide kc
      clear kc
      have hsrt := iS.out
      rw [hd] at hsrt
      obtain ⟨sl, sct, slc⟩ := List.pairwise_append.1 hsrt
      obtain ⟨sc, st⟩ := List.pairwise_cons.1 sct
      have HSL := hide sl
      have HSC := hide sc
      have HST2 := hide st
      have HSLC := hide slc
      have ML : Hid (∀ y ∈ l, y ∈ d) := fun y hy => iM.out y (by rw [hd]; exact List.mem_append.2 (.inl hy))
      have MT : Hid (∀ y ∈ t, y ∈ d) := fun y hy => iM.out y (by rw [hd]; exact List.mem_append.2 (.inr (List.mem_cons.2 (.inr hy))))
      have MC : Hid (c ∈ d) := iM.out c (by rw [hd]; exact List.mem_append.2 (.inr (List.mem_cons.2 (.inl rfl))))
      have HD := hide hd
      have E0 := hide e0
      have E1 := hide e1
      have E2 := hide e2
      have HTl := hide hTl
      have HTr := hide hTr
      clear hsrt sl sct slc sc st hd e0 e1 e2 hF hTl hTr haj
      by_cases hgt : x < nd j 0
      · go_wp2
        refine ⟨⟨nd j 8, f2, j + 1, l, E, rm, ok, rfl, HTl, HSL, ML, iB, fun v => ?_, iA, iK⟩, ms_lt HTl.out hj0 hjK⟩
        rw [← iE.out v, HD.out, El.split]
        have hc : c.1 > x := by rw [← E0.out]; exact hgt
        constructor
        · rintro (h | h)
          · exact .inl h
          · exact .inr (.inl h)
        · rintro (h | h | ⟨y, rfl, _, h, _⟩ | ⟨y, hy, _, h, _⟩)
          · exact .inl h
          · exact .inr h
          · omega
          · have := HSC.out y hy
            omega
      · have hgt' : decide (x < nd j 0) = false := by simp; omega
        have HCX : Hid (c.1 ≤ x) := by show c.1 ≤ x; rw [← E0.out]; omega
        have hPA : PoolAt wr PB C clk := ⟨(iK.out.cell (p := ⟨PB, 1, none⟩) l2 (by simp; omega)).trans HQ1.out, (iK.out.cell (p := ⟨C, 0, none⟩) l3 (by simp; omega)).trans HCK.out⟩
        have hXA := (iK.out.cell (p := ⟨XB, 0, none⟩) l4 (by simp; omega)).trans HX.out
        have z1 : wr.cell? ⟨G, j * 11 + 1, none⟩ = some (.int .i64 (nd j 1)) := (KC.out _).trans (HN.out.cell (t := 1) hjK (by omega))
        have z2 : wr.cell? ⟨G, j * 11 + 2, none⟩ = some (.int .i64 (nd j 2)) := (KC.out _).trans (HN.out.cell (t := 2) hjK (by omega))
        have hsz := iK.out.size
        have HCL : Hid (∀ (L : Value) (tk : Bool) (v2 : Int), LeftAt wr G L tk clk v2 → LeftFig tk v2 x clk l → Calls Yba.prog 16 #[.pointer (some ⟨G, j * 11, none⟩), L, .pointer (some ⟨XB, 0, none⟩), .pointer (some ⟨OB, 0, none⟩), .pointer (some ⟨RB, 0, none⟩)] wr fun e w' =>
            e = .returned (.tuple #[]) ∧ (∃ rm2 ok2, Best (fun v => (E v ∨ El x clk (fun y => y = c) v) ∨ El x clk (fun y => y ∈ l) v) rm2 ok2 ∧ Acc w' RB OB rm2 ok2) ∧ Kept (fun k => k = RB ∨ k = OB) w w') := fun L tk v2 hL hLF => by
          refine (clos wr PB C G XB RB OB (j * 11) clk (nd j 0) (nd j 1) (nd j 2) rm v2 ok tk L hPA hXA z0 z1 z2 b1 (by rw [E1.out]; exact HBD.out c MC.out) iA.out hL n1 n3 n4 n5 n6 n7 n8 n9 n10 (by omega) (by omega) (by omega)).mono ?_
          rintro e w' ⟨rfl, ⟨rm1, ok1, p1, p2, rm2, ok2, p3, p4, hac⟩, hk⟩
          rw [E0.out, E1.out] at p2
          exact ⟨rfl, ⟨rm2, ok2, best2 (best1 iB.out HCX.out E2.out p1 p2) hLF p3 p4, hac⟩, iK.out.trans ⟨hk.os, hk.tape, hk.output, hk.size, hk.block⟩⟩
        have HFIN : Hid (∀ v, (((E v ∨ El x clk (fun y => y = c) v) ∨ El x clk (fun y => y ∈ l) v) ∨ El x clk (fun y => y ∈ t) v) ↔ El x clk (fun c => c ∈ d) v) := fun v => by
          rw [← iE.out v, HD.out, El.split]
          constructor
          · rintro (((h | h) | h) | h)
            · exact .inl h
            · exact .inr (.inr (.inl h))
            · exact .inr (.inl h)
            · exact .inr (.inr (.inr h))
          · rintro (h | h | h | h)
            · exact .inl (.inl (.inl h))
            · exact .inl (.inr h)
            · exact .inl (.inl (.inr h))
            · exact .inr h
        clear z1 z2 hPA hXA
        by_cases hl0 : nd j 8 = 0
        · have hnoL : LeftFig false 0 x clk l := by
            have e := HTl.out
            rw [hl0] at e
            have e' := e.zero
            subst e'
            exact ⟨fun _ r ⟨y, hy, _⟩ => absurd hy (List.not_mem_nil), fun h => by cases h⟩
          have HCC := hide (HCL.out (.pointer none) false 0 (.inl ⟨rfl, rfl⟩) hnoL)
          rw [hl0] at z8
          clear hnoL hl0 HCL
          go_wp2_with (go_at_call 16; refine HCC.out.mono ?_; rintro e w' ⟨rfl, ⟨rm2, ok2, hb2, ha2⟩, hk2⟩; have zz : w'.cell? ⟨G, j * 11 + 9, none⟩ = some (.int .i32 (nd j 9)) := (hk2.cell (p := ⟨G, j * 11 + 9, none⟩) hG (by simp; omega)).trans (HN.out.cell (t := 9) hjK (by omega)); have HB2 := hide hb2; have HA2 := hide ha2; have HK2 := hide hk2; clear hb2 ha2 hk2 z0 z8 z9)
          exact ⟨⟨nd j 9, f2, j + 1, t, _, rm2, ok2, rfl, HTr, HST2, MT, HB2, HFIN, HA2, HK2⟩, ms_lt HTr.out hj0 hjK⟩
        · obtain ⟨f3, jl, ll, cl, tl, hjl, hjl0, hjla, hjlK, hld, _, _, _, hFl, _, _⟩ := HTl.out.node hl0
          have y3 : wr.cell? ⟨G, jl * 11 + 3, none⟩ = some (.int .i64 (nd jl 3)) := (KC.out _).trans (HN.out.cell (t := 3) hjlK (by omega))
          have y5 : wr.cell? ⟨G, jl * 11 + 5, none⟩ = some (.int .i64 (nd jl 5)) := (KC.out _).trans (HN.out.cell (t := 5) hjlK (by omega))
          have y6 : wr.cell? ⟨G, jl * 11 + 6, none⟩ = some (.int .i64 (nd jl 6)) := (KC.out _).trans (HN.out.cell (t := 6) hjlK (by omega))
          have hbl : ∀ y, y ∈ l → -2147483648 ≤ y.2.1 ∧ y.2.1 ≤ 2147483647 := fun y hy => HBD.out y (ML.out y hy)
          have hlx : ∀ y, y ∈ l → y.1 ≤ x := fun y hy => by
            have h1 := HSLC.out y hy c (List.mem_cons.2 (.inl rfl))
            have h2 : c.1 ≤ x := HCX.out
            omega
          have HCC := hide (HCL.out (.pointer (some ⟨G, jl * 11, none⟩)) (decide (nd jl 3 ≠ 9223372036854775807)) (if nd jl 5 < nd jl 6 - clk then nd jl 6 - clk else nd jl 5)
            (.inr ⟨jl * 11, nd jl 3, nd jl 5, nd jl 6, rfl, y3, y5, y6, hFl.mi_le hbl, by simp, rfl⟩)
            ⟨fun h r => hFl.vacant (by simpa using h) r, fun h => hFl.most hlx hbl b1 (by simpa using h)⟩)
          rw [hjl] at z8
          clear y3 y5 y6 hbl hlx hFl hld hjl hjla HCL hl0
          go_wp2_with (go_at_call 16; refine HCC.out.mono ?_; rintro e w' ⟨rfl, ⟨rm2, ok2, hb2, ha2⟩, hk2⟩; have zz : w'.cell? ⟨G, j * 11 + 9, none⟩ = some (.int .i32 (nd j 9)) := (hk2.cell (p := ⟨G, j * 11 + 9, none⟩) hG (by simp; omega)).trans (HN.out.cell (t := 9) hjK (by omega)); have HB2 := hide hb2; have HA2 := hide ha2; have HK2 := hide hk2; clear hb2 ha2 hk2 z0 z8 z9)
          exact ⟨⟨nd j 9, f2, j + 1, t, _, rm2, ok2, rfl, HTr, HST2, MT, HB2, HFIN, HA2, HK2⟩, ms_lt HTr.out hj0 hjK⟩
end Go.Proofs.Ybulkefry
