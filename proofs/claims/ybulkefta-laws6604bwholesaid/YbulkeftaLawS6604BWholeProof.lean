import Derived.Test.YbulkeftaT8
import Derived.ProofKit
import Derived.OpenShut
import Derived.ShutString
import Derived.ChangeOld
import Derived.Deep.Strs
namespace Go.Proofs.Ybulkefta.lawS6604BWhole
open Go.ChangeShapes Go.WideShapes Go.ChangeAt Go.RowKit
open Go.Deep (trod_struct3)
set_option linter.unusedVariables false

theorem own : ownKnob Yba.prog.godebug = none := by kernel_rfl
theorem laidOut : laidOutB Yba.prog = true := by kernel_rfl
theorem cells5 : Yba.prog.cellsOf 5 = 1 := by kernel_rfl
theorem cells22 : Yba.prog.cellsOf 22 = 1 := by kernel_rfl
theorem cells50 : Yba.prog.cellsOf 50 = 1 := by kernel_rfl
theorem cells52 : Yba.prog.cellsOf 52 = 3 := by kernel_rfl

section
variable {H : Type} {enc : TypeId × Value → H} {W : World} {sp : Nat → Bool} {hd : Bool} {fuel : Nat} {cs : List Value} {x : DataW H × List MemPlace}

theorem take_wf {zs : List Int} {len : Nat} : (zs.take len).length = min len zs.length := List.length_take

/-- a slice of bytes, read -/
theorem open_bytes (h : DataW.trod enc Yba.prog W 0 sp hd fuel 22 cs = some x) : ∃ v xs, cs = [v] ∧ BytesAt W (fun _ => True) v xs ∧ xs.length ≤ maxLen := by
  rcases open_ints Yba.underlying22 Yba.underlying5 cells5 h with ⟨hcs, _⟩ | ⟨a, len, cap, zs, hcs, _, hl, hm, hz, _, hcell, _⟩
  · exact ⟨_, [], hcs, .inl ⟨rfl, rfl⟩, Nat.zero_le _⟩
  · have hlz : len ≤ zs.length := by rw [hz]; split <;> omega
    have hxl : (zs.take len).length = len := by rw [List.length_take]; omega
    have hc : ∀ j u, (bcells (zs.take len))[j]? = some u → W.cell? (a.add j) = some u := by
      intro j u hj
      have hjl : j < (bcells (zs.take len)).length := (List.getElem?_eq_some_iff.1 hj).1
      rw [length_bcells, hxl] at hjl
      rw [bcells_at _ j (by omega)] at hj
      rw [hcell j (by omega), ← hj]
      simp [hjl]
    refine ⟨_, zs.take len, by rw [hcs], .inr ⟨a, cap, by rw [hxl], fun h0 => ⟨trivial, ?_⟩, hc⟩, by rw [hxl]; omega⟩
    have := World.block_lt_of_cell? _ _ (hc 0 _ (bcells_at (zs.take len) 0 h0))
    rwa [add_block] at this

/-- a slice of slices of bytes, read -/
theorem open_byteslices (h : DataW.trod enc Yba.prog W 0 sp hd fuel 50 cs = some x) : ∃ a len cap, cs = [.slice a len cap] ∧ len ≤ maxLen ∧ ∃ (sx : Nat → Value) (sb : Nat → List Int),
    (0 < len → ∃ b o, a = some ⟨b, o, none⟩ ∧ b < W.heap.size ∧ ∀ j, j < len → W.cell? ⟨b, o + j, none⟩ = some (sx j) ∧ BytesAt W (fun _ => True) (sx j) (sb j)) ∧ ∀ j, j < len → (sb j).length ≤ maxLen := by
  rcases DataW.trod_slice Yba.underlying50 h with ⟨hcs, _⟩ | ⟨a, len, cap, elems, rest, n, _, hcs, _, _, hl, hm, hlen, hel, _, _⟩
  · exact ⟨none, 0, 0, hcs, Nat.zero_le _, fun _ => .nilIface, fun _ => [], fun h => absurd h (by omega), fun j hj => absurd hj (by omega)⟩
  · have each : ∀ j, j < len → ∃ v xs, W.cell? (a.add j) = some v ∧ BytesAt W (fun _ => True) v xs ∧ xs.length ≤ maxLen := by
      intro j hj
      have e := hel j hj
      rw [cells22, Nat.mul_one, List.getElem?_eq_getElem (by omega)] at e
      obtain ⟨cs', h1, h2⟩ := Option.bind_eq_some_iff.1 e
      obtain ⟨v, xs, rfl, h3, h4⟩ := open_bytes h2
      exact ⟨v, xs, cell_of_cells?_one h1, h3, h4⟩
    have hch : ∃ (sx : Nat → Value) (sb : Nat → List Int), ∀ j, j < len → W.cell? (a.add j) = some (sx j) ∧ BytesAt W (fun _ => True) (sx j) (sb j) ∧ (sb j).length ≤ maxLen := by
      refine ⟨fun j => if hj : j < len then (each j hj).choose else .nilIface, fun j => if hj : j < len then (each j hj).choose_spec.choose else [], fun j hj => ?_⟩
      simp only [dif_pos hj]
      exact (each j hj).choose_spec.choose_spec
    obtain ⟨sx, sb, hs⟩ := hch
    refine ⟨some a, len, cap, hcs, by omega, sx, sb, fun hp => ?_, fun j hj => (hs j hj).2.2⟩
    obtain ⟨b, off, spot⟩ := a
    have hspot : spot = none := by simpa [Addr.add] using World.cell?_spot (hs 0 hp).1
    subst hspot
    have hcell : ∀ j, j < len → W.cell? ⟨b, off + j, none⟩ = some (sx j) := fun j hj => by rw [← Go.WideShapes.add_plain]; exact (hs j hj).1
    exact ⟨b, off, rfl, World.block_lt_of_cell? _ _ (hcell 0 hp), fun j hj => ⟨hcell j hj, (hs j hj).2.1⟩⟩

/-- one element, read -/
def ElemIs (W : World) (c0 c1 c2 : Value) (kd : Int) (tb : List Int) (sa : Option Addr) (sl sc : Nat) (sx : Nat → Value) (sb : Nat → List Int) : Prop :=
  c0 = .int .u8 kd ∧ 0 ≤ kd ∧ kd ≤ 255 ∧ BytesAt W (fun _ => True) c1 tb ∧ tb.length ≤ maxLen ∧ c2 = .slice sa sl sc ∧ sl ≤ maxLen ∧
    (0 < sl → ∃ b o, sa = some ⟨b, o, none⟩ ∧ b < W.heap.size ∧ ∀ j, j < sl → W.cell? ⟨b, o + j, none⟩ = some (sx j) ∧ BytesAt W (fun _ => True) (sx j) (sb j)) ∧ ∀ j, j < sl → (sb j).length ≤ maxLen

theorem open_elem (h : DataW.trod enc Yba.prog W 0 sp hd fuel 52 cs = some x) : ∃ c0 c1 c2 kd tb sa sl sc sx sb, cs = [c0, c1, c2] ∧ ElemIs W c0 c1 c2 kd tb sa sl sc sx sb := by
  obtain ⟨y0, y1, y2, n, _, hl, h0, h1, h2⟩ := trod_struct3 Yba.underlying52 h
  rw [cells52] at hl
  match cs, hl with
  | [c0, c1, c2], _ =>
    simp only [cells5, cells22, cells50, List.drop_zero, List.drop_succ_cons, List.take_succ_cons, List.take_zero] at h0 h1 h2
    obtain ⟨kd, e0, _, w0⟩ := DataW.trod_int Yba.underlying5 h0
    simp at e0
    obtain ⟨v1, tb, e1, b1, l1⟩ := open_bytes h1
    simp at e1
    obtain ⟨sa, sl, sc, e2, l2, sx, sb, g1, g2⟩ := open_byteslices h2
    simp at e2
    subst e0 e1 e2
    have hb := bounds_u8 w0
    exact ⟨_, _, _, kd, tb, sa, sl, sc, sx, sb, rfl, rfl, hb.1, hb.2, b1, l1, rfl, l2, g1, g2⟩

theorem open_elems (h : DataW.trod enc Yba.prog W 0 sp hd fuel 49 cs = some x) : ∃ a1 n cap, cs = [.slice a1 n cap] ∧ n ≤ maxLen ∧ ∃ kd tx tb sa sl sc sx sb, Inp W a1 n kd tx tb sa sl sc sx sb := by
  rcases DataW.trod_slice Yba.underlying49 h with ⟨hcs, _⟩ | ⟨a, n, cap, elems, rest, m, _, hcs, _, _, hl, hm, hlen, hel, _, _⟩
  · refine ⟨none, 0, 0, hcs, Nat.zero_le _, fun _ => 0, fun _ => .nilIface, fun _ => [], fun _ => none, fun _ => 0, fun _ => 0, fun _ _ => .nilIface, fun _ _ => [], ?_⟩
    exact ⟨fun h => absurd h (by omega), fun i hi => absurd hi (by omega), fun i hi => absurd hi (by omega), fun i hi => absurd hi (by omega), fun i hi => absurd hi (by omega), fun i hi => absurd hi (by omega), fun i hi => absurd hi (by omega)⟩
  · have each : ∀ i, i < n → ∃ t : Int × Value × List Int × Option Addr × Nat × Nat × (Nat → Value) × (Nat → List Int),
        W.cell? ((a.add (i * 3)).add 0) = some (.int .u8 t.1) ∧ W.cell? ((a.add (i * 3)).add 1) = some t.2.1 ∧ W.cell? ((a.add (i * 3)).add 2) = some (.slice t.2.2.2.1 t.2.2.2.2.1 t.2.2.2.2.2.1) ∧
        ElemIs W (.int .u8 t.1) t.2.1 (.slice t.2.2.2.1 t.2.2.2.2.1 t.2.2.2.2.2.1) t.1 t.2.2.1 t.2.2.2.1 t.2.2.2.2.1 t.2.2.2.2.2.1 t.2.2.2.2.2.2.1 t.2.2.2.2.2.2.2 := by
      intro i hi
      have e := hel i hi
      rw [cells52, List.getElem?_eq_getElem (by omega)] at e
      obtain ⟨cs', h1, h2⟩ := Option.bind_eq_some_iff.1 e
      obtain ⟨c0, c1, c2, kd, tb, sa, sl, sc, sx, sb, rfl, hE⟩ := open_elem h2
      obtain ⟨_, _, hc⟩ := World.cells?_some h1
      have hE' := hE
      obtain ⟨rfl, _, _, _, _, rfl, _⟩ := hE'
      exact ⟨(kd, c1, tb, sa, sl, sc, sx, sb), hc 0 (by omega), hc 1 (by omega), hc 2 (by omega), hE⟩
    have hch : ∃ t : Nat → Int × Value × List Int × Option Addr × Nat × Nat × (Nat → Value) × (Nat → List Int), ∀ i, i < n →
        W.cell? ((a.add (i * 3)).add 0) = some (.int .u8 (t i).1) ∧ W.cell? ((a.add (i * 3)).add 1) = some (t i).2.1 ∧ W.cell? ((a.add (i * 3)).add 2) = some (.slice (t i).2.2.2.1 (t i).2.2.2.2.1 (t i).2.2.2.2.2.1) ∧
        ElemIs W (.int .u8 (t i).1) (t i).2.1 (.slice (t i).2.2.2.1 (t i).2.2.2.2.1 (t i).2.2.2.2.2.1) (t i).1 (t i).2.2.1 (t i).2.2.2.1 (t i).2.2.2.2.1 (t i).2.2.2.2.2.1 (t i).2.2.2.2.2.2.1 (t i).2.2.2.2.2.2.2 := by
      refine ⟨fun i => if hi : i < n then (each i hi).choose else (0, .nilIface, [], none, 0, 0, fun _ => .nilIface, fun _ => []), fun i hi => ?_⟩
      simp only [dif_pos hi]
      exact (each i hi).choose_spec
    obtain ⟨t, ht⟩ := hch
    refine ⟨some a, n, cap, hcs, by omega, fun i => (t i).1, fun i => (t i).2.1, fun i => (t i).2.2.1, fun i => (t i).2.2.2.1, fun i => (t i).2.2.2.2.1, fun i => (t i).2.2.2.2.2.1, fun i => (t i).2.2.2.2.2.2.1, fun i => (t i).2.2.2.2.2.2.2, ?_⟩
    refine ⟨fun hp => ?_, fun i hi => ⟨(ht i hi).2.2.2.2.1, (ht i hi).2.2.2.2.2.1⟩, fun i hi => (ht i hi).2.2.2.2.2.2.1, fun i hi => (ht i hi).2.2.2.2.2.2.2.2.2.2.1, fun i hi => (ht i hi).2.2.2.2.2.2.2.1, fun i hi => (ht i hi).2.2.2.2.2.2.2.2.2.1, fun i hi => (ht i hi).2.2.2.2.2.2.2.2.2.2.2⟩
    obtain ⟨b, off, spot⟩ := a
    have hspot : spot = none := by simpa [Addr.add] using World.cell?_spot (ht 0 hp).1
    subst hspot
    have hadd : ∀ i j, ((⟨b, off, none⟩ : Addr).add (i * 3)).add j = ⟨b, off + i * 3 + j, none⟩ := fun i j => by rw [Addr.add_lit, Addr.add_lit]
    have hcell : ∀ i, i < n → W.cell? ⟨b, off + i * 3, none⟩ = some (.int .u8 (t i).1) ∧ W.cell? ⟨b, off + i * 3 + 1, none⟩ = some (t i).2.1 ∧ W.cell? ⟨b, off + i * 3 + 2, none⟩ = some (.slice (t i).2.2.2.1 (t i).2.2.2.2.1 (t i).2.2.2.2.2.1) := fun i hi => by
      obtain ⟨g0, g1, g2, _⟩ := ht i hi
      rw [hadd] at g0 g1 g2
      exact ⟨g0, g1, g2⟩
    exact ⟨b, off, rfl, World.block_lt_of_cell? _ _ (hcell 0 hp).1, hcell⟩
end

set_option maxRecDepth 100000 in
theorem lifted (os : Os) (started : os.Started) (H : Type) (enc : TypeId × Value → H) :
    ReturnsInHanded {} Yba.checked os 4 .any (Rows.lawS6604BWholeSpec.pre6 enc Yba.prog Yba.f4 Rows.lawS6604BWholeRow.domain false) (Rows.lawS6604BWholeSpec.post enc Yba.prog Yba.f4 false true false false) := by
  refine returnsInHanded_of_change (C := Yba.checked) own started (by kernel_rfl) Yba.func4
    (ChangeSpec.witness6 (enc := enc) (C := Yba.checked) false ⟨#[], #[.slice none 0 0, .slice none 0 0], []⟩ 8 (by kernel_rfl) (by kernel_rfl) (by kernel_rfl) (by kernel_rfl)) ?_
  intro W base args ds gs before hval0 hW hcnd _
  have hval : ∀ (j : Nat) t v, Yba.f4.params[j]? = some t → args[j]? = some v → Value.okWide Yba.prog W .any base t v := hval0
  have hW' := hW
  obtain ⟨p, q, hA0, hV, rfl, hfz, hnd⟩ := hW
  have hA : DataW.TrodAll enc Yba.prog W 0 (fun _ => true) true Yba.f4.params.toList args.toList ds p := hA0
  rw [Yba.params4] at hA hval
  obtain ⟨v0, vs0, d0, ds0, p0, q0, hargs, rfl, rfl, h0, r0⟩ := trodAll_cons hA
  obtain ⟨v1, vs1, d1, ds1, p1, q1, rfl, rfl, rfl, h1, r1⟩ := trodAll_cons r0
  obtain ⟨rfl, rfl, rfl⟩ := trodAll_nil r1
  obtain rfl : args = #[v0, v1] := by cases args; simp_all
  obtain ⟨rfl, rfl⟩ := trodVars_none hV
  obtain ⟨a0, len0, cap0, rfl⟩ := okWide_slice Yba.underlying22 (hval 0 22 v0 rfl rfl)
  obtain ⟨a1, len1, cap1, rfl⟩ := okWide_slice Yba.underlying49 (hval 1 49 v1 rfl rfl)
  have k0 := h0
  have k1 := h1
  have lt0 : ∀ x ∈ p0, x.block < W.heap.size := by obtain ⟨m, hm⟩ := k0; exact DataW.trod_lt m _ _ _ hm
  have lt1 : ∀ x ∈ p1, x.block < W.heap.size := by obtain ⟨m, hm⟩ := k1; exact DataW.trod_lt m _ _ _ hm
  obtain ⟨f0, t0⟩ := h0
  obtain ⟨f1, t1⟩ := h1
  obtain ⟨dv, db, e0, hD, hDl⟩ := open_bytes t0
  obtain ⟨a1', n', cap1', e1, hnl, kd, tx, tb, sa, sl, sc, sx, sb, hI⟩ := open_elems t1
  simp [Value.cells] at e0 e1
  obtain ⟨rfl, rfl, rfl⟩ := e1
  subst e0
  clear hA0 hval0
  refine (walk _ db a1 len1 cap1 kd tx tb sa sl sc sx sb W hD hDl hnl hI).mono fun e W' ⟨he, bel⟩ => ?_
  subst he
  exact ⟨_, rfl, _, _, _, [], _, [], hW', trodAll_mk1 (shut_bool Yba.underlying4 _), (trodAll_cons_mk (Below.trod laidOut (by kernel_rfl) (of_decide_eq_true (by kernel_rfl)) k0 bel lt0) (trodAll_cons_mk (Below.trod laidOut (by kernel_rfl) (of_decide_eq_true (by kernel_rfl)) k1 bel lt1) trodAll_mk0)), rfl, bel.frame _, fun h => by cases h⟩

theorem over : Rows.lawS6604BWholeRow.holds Yba.pinned (OpenSpec.ofChange Rows.lawS6604BWholeSpec) :=
  OpenClaim.holds_of_wide 4 Yba.f4 rfl rfl rfl rfl rfl rfl rfl ⟨rfl, rfl, rfl, rfl, rfl⟩ rfl rfl rfl rfl rfl (by kernel_rfl) Yba.func4 (by kernel_rfl)
    (of_decide_eq_true (by kernel_rfl)) (by unfold Func.isWrapper; first | (rw [if_pos (by decide +kernel)]; kernel_rfl) | (rw [if_neg (by decide +kernel)]; exact ⟨rfl, rfl⟩))
    (fun os started H enc _ => lifted os started H enc)

/-- THE STATEMENT -/
theorem proved : Rows.LawS6604BWholeSaid := over
#print axioms proved
end Go.Proofs.Ybulkefta.lawS6604BWhole
