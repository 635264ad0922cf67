import Derived.Test.YbulkefryB12
import Derived.ProofKit
import Derived.OpenShut
import Derived.ShutString
import Derived.ChangeOld
import Derived.Deep.Strs
namespace Go.Proofs.Ybulkefry.lawS6602CWhole
open Go.ChangeShapes Go.WideShapes Go.ChangeAt Go.RowKit
open Go.Deep (trod_struct3)
set_option linter.unusedVariables false

theorem own : ownKnob Yba.prog.godebug = none := by kernel_rfl
theorem laidOut : laidOutB Yba.prog = true := by kernel_rfl
theorem cells21 : Yba.prog.cellsOf 21 = 1 := by kernel_rfl
theorem cells4 : Yba.prog.cellsOf 4 = 1 := by kernel_rfl
theorem cells25 : Yba.prog.cellsOf 25 = 3 := by kernel_rfl

set_option maxRecDepth 100000 in
set_option maxHeartbeats 1000000 in
theorem walk (a1 : Option Addr) (n cap1 : Nat) (D : Nat → Int × Int × Bool) (clock x : Int) (w : World) (hn : n ≤ maxLen) (hnil : a1 = none → n = 0 ∧ cap1 = 0) (hI : InpC w a1 n D) (hclk : -2147483648 ≤ clock ∧ clock ≤ 2147483647) :
    Calls Yba.prog 3 #[.slice a1 n cap1, .int .i32 clock, .int .i64 x] w fun e w' => e = .returned (.bool true) ∧ Below w.heap.size w w' := by
  unfold maxLen at hn
  by_cases hb : 65536 < n
  · clear hI hnil
    go_enter Yba.func3, Yba.ntmps3
    go_wp2
    go_ret
    exact ⟨rfl, Below.refl _ _⟩
  · cases a1 with
    | none =>
      obtain ⟨rfl, rfl⟩ := hnil rfl
      exact walkNil clock x w D hclk
    | some a => exact walkSome a n cap1 D clock x w (by omega) hI hclk

section
variable {H : Type} {enc : TypeId × Value → H} {W : World} {sp : Nat → Bool} {hd : Bool} {fuel : Nat} {cs : List Value} {x : DataW H × List MemPlace}

theorem open_cls (h : DataW.trod enc Yba.prog W 0 sp hd fuel 25 cs = some x) : ∃ c : Int × Int × Bool, cs = [.int .i32 c.1, .int .i32 c.2.1, .bool c.2.2] ∧ (-2147483648 ≤ c.1 ∧ c.1 ≤ 2147483647) ∧ (-2147483648 ≤ c.2.1 ∧ c.2.1 ≤ 2147483647) := by
  obtain ⟨y0, y1, y2, n, _, hl, h0, h1, h2⟩ := trod_struct3 Yba.underlying25 h
  rw [cells25] at hl
  match cs, hl with
  | [c0, c1, c2], _ =>
    simp only [cells21, cells4, List.drop_zero, List.drop_succ_cons, List.take_succ_cons, List.take_zero] at h0 h1 h2
    obtain ⟨k0, e0, _, w0⟩ := DataW.trod_int Yba.underlying21 h0
    obtain ⟨k1, e1, _, w1⟩ := DataW.trod_int Yba.underlying21 h1
    obtain ⟨k2, e2, _⟩ := DataW.trod_bool Yba.underlying4 h2
    simp at e0 e1 e2
    subst e0 e1 e2
    exact ⟨(k0, k1, k2), rfl, bounds_i32 w0, bounds_i32 w1⟩

theorem open_clss (h : DataW.trod enc Yba.prog W 0 sp hd fuel 22 cs = some x) : ∃ a1 n cap, cs = [.slice a1 n cap] ∧ n ≤ maxLen ∧ (a1 = none → n = 0 ∧ cap = 0) ∧ ∃ D, InpC W a1 n D := by
  rcases DataW.trod_slice Yba.underlying22 h with ⟨hcs, _⟩ | ⟨a, n, cap, elems, rest, m, _, hcs, _, _, hl, hm, hlen, hel, _, _⟩
  · exact ⟨none, 0, 0, hcs, Nat.zero_le _, fun _ => ⟨rfl, rfl⟩, fun _ => (0, 0, false), fun h => absurd h (by omega), fun i hi => absurd hi (by omega)⟩
  · have each : ∀ i, i < n → ∃ c : Int × Int × Bool, (W.cell? ((a.add (i * 3)).add 0) = some (.int .i32 c.1) ∧ W.cell? ((a.add (i * 3)).add 1) = some (.int .i32 c.2.1) ∧ W.cell? ((a.add (i * 3)).add 2) = some (.bool c.2.2)) ∧ (-2147483648 ≤ c.1 ∧ c.1 ≤ 2147483647) ∧ (-2147483648 ≤ c.2.1 ∧ c.2.1 ≤ 2147483647) := by
      intro i hi
      have e := hel i hi
      rw [cells25, List.getElem?_eq_getElem (by omega)] at e
      obtain ⟨cs', h1, h2⟩ := Option.bind_eq_some_iff.1 e
      obtain ⟨c, rfl, hb1, hb2⟩ := open_cls h2
      obtain ⟨_, _, hc⟩ := World.cells?_some h1
      exact ⟨c, ⟨hc 0 (by omega), hc 1 (by omega), hc 2 (by omega)⟩, hb1, hb2⟩
    have hch : ∃ D : Nat → Int × Int × Bool, ∀ i, i < n → (W.cell? ((a.add (i * 3)).add 0) = some (.int .i32 (D i).1) ∧ W.cell? ((a.add (i * 3)).add 1) = some (.int .i32 (D i).2.1) ∧ W.cell? ((a.add (i * 3)).add 2) = some (.bool (D i).2.2)) ∧ (-2147483648 ≤ (D i).1 ∧ (D i).1 ≤ 2147483647) ∧ (-2147483648 ≤ (D i).2.1 ∧ (D i).2.1 ≤ 2147483647) :=
      ⟨fun i => if hi : i < n then (each i hi).choose else (0, 0, false), fun i hi => by
        simp only [dif_pos hi]
        exact (each i hi).choose_spec⟩
    obtain ⟨D, hD⟩ := hch
    clear each
    refine ⟨some a, n, cap, hcs, by omega, fun h => (by cases h), D, fun hp => ?_, fun i hi => (hD i hi).2⟩
    obtain ⟨b, off, spot⟩ := a
    have hspot : spot = none := by simpa [Addr.add] using World.cell?_spot (hD 0 hp).1.1
    subst hspot
    have hadd : ∀ i j, ((⟨b, off, none⟩ : Addr).add (i * 3)).add j = ⟨b, off + i * 3 + j, none⟩ := fun i j => by rw [Addr.add_lit, Addr.add_lit]
    have hcell : ∀ i, i < n → W.cell? ⟨b, off + i * 3, none⟩ = some (.int .i32 (D i).1) ∧ W.cell? ⟨b, off + i * 3 + 1, none⟩ = some (.int .i32 (D i).2.1) ∧ W.cell? ⟨b, off + i * 3 + 2, none⟩ = some (.bool (D i).2.2) := fun i hi => by
      obtain ⟨⟨g0, g1, g2⟩, _⟩ := hD i hi
      rw [hadd] at g0 g1 g2
      exact ⟨g0, g1, g2⟩
    exact ⟨b, off, rfl, World.block_lt_of_cell? _ _ (hcell 0 hp).1, hcell⟩
end

set_option maxRecDepth 100000 in
theorem lifted (os : Os) (started : os.Started) (H : Type) (enc : TypeId × Value → H) :
    ReturnsInHanded {} Yba.checked os 3 .any (Rows.lawS6602CWholeSpec.pre6 enc Yba.prog Yba.f3 Rows.lawS6602CWholeRow.domain false) (Rows.lawS6602CWholeSpec.post enc Yba.prog Yba.f3 false true false false) := by
  refine returnsInHanded_of_change (C := Yba.checked) own started (by kernel_rfl) Yba.func3
    (ChangeSpec.witness6 (enc := enc) (C := Yba.checked) false ⟨#[], #[.slice none 0 0, .int .i32 0, .int .i64 0], []⟩ 8 (by kernel_rfl) (by kernel_rfl) (by kernel_rfl) (by kernel_rfl)) ?_
  intro W base args ds gs before hval0 hW hcnd _
  have hval : ∀ (j : Nat) t v, Yba.f3.params[j]? = some t → args[j]? = some v → Value.okWide Yba.prog W .any base t v := hval0
  have hW' := hW
  obtain ⟨p, q, hA0, hV, rfl, hfz, hnd⟩ := hW
  have hA : DataW.TrodAll enc Yba.prog W 0 (fun _ => true) true Yba.f3.params.toList args.toList ds p := hA0
  rw [Yba.params3] at hA hval
  obtain ⟨v0, vs0, d0, ds0, p0, q0, hargs, rfl, rfl, h0, r0⟩ := trodAll_cons hA
  obtain ⟨v1, vs1, d1, ds1, p1, q1, rfl, rfl, rfl, h1, r1⟩ := trodAll_cons r0
  obtain ⟨v2, vs2, d2, ds2, p2, q2, rfl, rfl, rfl, h2, r2⟩ := trodAll_cons r1
  obtain ⟨rfl, rfl, rfl⟩ := trodAll_nil r2
  obtain rfl : args = #[v0, v1, v2] := by cases args; simp_all
  obtain ⟨rfl, rfl⟩ := trodVars_none hV
  obtain ⟨a0, len0, cap0, rfl⟩ := okWide_slice Yba.underlying22 (hval 0 22 v0 rfl rfl)
  have k0 := h0
  have k1 := h1
  have k2 := h2
  have lt0 : ∀ x ∈ p0, x.block < W.heap.size := by obtain ⟨m, hm⟩ := k0; exact DataW.trod_lt m _ _ _ hm
  have lt1 : ∀ x ∈ p1, x.block < W.heap.size := by obtain ⟨m, hm⟩ := k1; exact DataW.trod_lt m _ _ _ hm
  have lt2 : ∀ x ∈ p2, x.block < W.heap.size := by obtain ⟨m, hm⟩ := k2; exact DataW.trod_lt m _ _ _ hm
  obtain ⟨n1, rfl⟩ := okWide_int Yba.underlying21 (hval 1 21 v1 rfl rfl)
  obtain ⟨n2, rfl⟩ := okWide_int Yba.underlying2 (hval 2 2 v2 rfl rfl)
  obtain ⟨f0, t0⟩ := h0
  obtain ⟨f1, t1⟩ := h1
  obtain ⟨a1', n', cap1', e1, hnl, hnil, D, hI⟩ := open_clss t0
  simp [Value.cells] at e1
  obtain ⟨rfl, rfl, rfl⟩ := e1
  obtain ⟨z1, e2, _, w1⟩ := DataW.trod_int Yba.underlying21 t1
  simp [Value.cells] at e2
  subst e2
  clear hA0 hval0
  refine (walk a0 len0 cap0 D n1 n2 W hnl hnil hI (bounds_i32 w1)).mono fun e W' ⟨he, bel⟩ => ?_
  subst he
  exact ⟨_, rfl, _, _, _, [], _, [], hW', trodAll_mk1 (shut_bool Yba.underlying4 _), (trodAll_cons_mk (Below.trod laidOut (by kernel_rfl) (of_decide_eq_true (by kernel_rfl)) k0 bel lt0) (trodAll_cons_mk (Below.trod laidOut (by kernel_rfl) (of_decide_eq_true (by kernel_rfl)) k1 bel lt1) (trodAll_cons_mk (Below.trod laidOut (by kernel_rfl) (of_decide_eq_true (by kernel_rfl)) k2 bel lt2) trodAll_mk0))), rfl, bel.frame _, fun h => by cases h⟩

theorem over : Rows.lawS6602CWholeRow.holds Yba.pinned (OpenSpec.ofChange Rows.lawS6602CWholeSpec) :=
  OpenClaim.holds_of_wide 3 Yba.f3 rfl rfl rfl rfl rfl rfl rfl ⟨rfl, rfl, rfl, rfl, rfl⟩ rfl rfl rfl rfl rfl (by kernel_rfl) Yba.func3 (by kernel_rfl)
    (of_decide_eq_true (by kernel_rfl)) (by unfold Func.isWrapper; first | (rw [if_pos (by decide +kernel)]; kernel_rfl) | (rw [if_neg (by decide +kernel)]; exact ⟨rfl, rfl⟩))
    (fun os started H enc _ => lifted os started H enc)

/-- THE STATEMENT -/
theorem proved : Rows.LawS6602CWholeSaid := over
#print axioms proved
end Go.Proofs.Ybulkefry.lawS6602CWhole
