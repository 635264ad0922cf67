import Derived.Test.YbulkefsmB2
import Derived.ProofKit
import Derived.OpenShut
import Derived.ShutString
import Derived.ChangeOld
import Derived.SizedLaws
import Derived.SliceStrings
namespace Go.Proofs.Ybulkefsm.lawS6603BWhole
open Go.ChangeShapes Go.WideShapes Go.ChangeAt Go.RowKit
open Go.ChangeMaps (open_string shut_string)
set_option linter.unusedVariables false

theorem own : ownKnob Yba.prog.godebug = none := by kernel_rfl
theorem laidOut : laidOutB Yba.prog = true := by kernel_rfl
theorem bytes9 : Yba.prog.bytesOf 9 = 16 := by kernel_rfl

theorem weightsAll_mem {H : Type} {P : Program} {e : TypeId} : ∀ {l : List (DataW H)} {d : DataW H} {n : Nat}, d ∈ l → n ∈ d.weights P e → n ∈ DataW.weightsAll P e l
  | d0 :: l, d, n, hd, hn => by
    simp only [DataW.weightsAll, List.mem_append]
    rcases List.mem_cons.1 hd with rfl | h
    · exact .inl hn
    · exact .inr (weightsAll_mem h hn)

theorem strs_at {w : World} {a : Addr} {ss : List ByteArray} (h : ∀ i, i < ss.length → w.cell? (a.add i) = some (.string (ss.getD i ByteArray.empty))) (hp : 0 < ss.length) :
    ∃ b off, a = ⟨b, off, none⟩ ∧ ∀ j, j < ss.length → w.cell? ⟨b, off + j, none⟩ = some (.string (ss.getD j ByteArray.empty)) := by
  obtain ⟨b, off, spot⟩ := a
  have hspot : spot = none := by simpa [Addr.add] using World.cell?_spot (h 0 hp)
  subst hspot
  exact ⟨b, off, rfl, fun j hj => by rw [← Go.WideShapes.add_plain]; exact h j hj⟩

/-- an argument that is a slice of strings: what the walk wants of it -/
theorem open_strs {H : Type} {enc : TypeId × Value → H} {W : World} {v : Value} {d : DataW H} {p : List MemPlace} {a : Option Addr} {len cap : Nat}
    (hv : v = .slice a len cap) (h : ∃ fuel, DataW.trod enc Yba.prog W 0 (fun _ => true) true fuel 22 v.cells.toList = some (d, p))
    (hw : ∀ n ∈ d.weights Yba.prog 22, n ≤ reachBytes) :
    ∃ f : Nat → ByteArray, StrsAt W a len f ∧ len * 16 ≤ 140737488351232 ∧ ∀ i, i < len → (f i).size ≤ 140737488351232 := by
  subst hv
  obtain ⟨fuel, hf⟩ := h
  rcases open_strings Yba.underlying22 Yba.underlying9 (by kernel_rfl) hf with ⟨hcs, _⟩ | ⟨x, l, c, ss, hcs, _, hl, hm, hz, hx, hcell, hws⟩
  · simp [Value.cells] at hcs
    obtain ⟨rfl, rfl, rfl⟩ := hcs
    exact ⟨fun _ => ByteArray.empty, fun h => absurd h (by omega), by omega, fun i hi => absurd hi (by omega)⟩
  · simp [Value.cells] at hcs
    obtain ⟨rfl, rfl, rfl⟩ := hcs
    simp at hz
    simp only [Prod.mk.injEq] at hx
    obtain ⟨rfl, _⟩ := hx
    refine ⟨fun i => ss.getD i ByteArray.empty, ?_, ?_, ?_⟩
    · intro hp
      obtain ⟨b, off, rfl, hc⟩ := strs_at hcell (by omega)
      exact ⟨b, off, rfl, World.block_lt_of_cell? _ _ (hc 0 (by omega)), fun i hi => hc i (by omega)⟩
    · have := hw (((strs (H := H) (ss.take len)).length + (strs (H := H) (ss.drop len)).length) * Yba.prog.bytesOf 9) (by simp [DataW.weights, Yba.underlying22])
      rw [bytes9] at this
      simp only [strs, List.length_map, List.length_take, List.length_drop, reachBytes] at this
      omega
    · intro i hi
      have hi' : i < ss.length := by omega
      have hin : (DataW.lit (.string ss[i].data.toList) : DataW H) ∈ strs (ss.take len) := by
        simp only [strs, List.mem_map]
        exact ⟨ss[i], List.mem_take_iff_getElem.2 ⟨i, by omega, rfl⟩, rfl⟩
      have := hw ss[i].data.toList.length (by
        simp only [DataW.weights, Yba.underlying22]
        exact List.mem_cons_of_mem _ (List.mem_append_left _ (weightsAll_mem hin (by simp [DataW.weights]))))
      have e : ss[i].size = ss[i].data.toList.length := Array.length_toList.symm
      simp only [List.getD_eq_getElem?_getD, List.getElem?_eq_getElem hi', Option.getD_some, e]
      exact this

set_option maxRecDepth 100000 in
theorem lifted (os : Os) (started : os.Started) (H : Type) (enc : TypeId × Value → H) :
    ReturnsInHanded {} Yba.checked os 3 .any (Rows.lawS6603BWholeSpec.pre6 enc Yba.prog Yba.f3 Rows.lawS6603BWholeRow.domain false) (Rows.lawS6603BWholeSpec.post enc Yba.prog Yba.f3 false true false false) := by
  refine returnsInHanded_of_change_sized (C := Yba.checked) own started (by kernel_rfl) Yba.func3
    (ChangeSpec.witness6 (enc := enc) (C := Yba.checked) false ⟨#[], #[.slice none 0 0, .slice none 0 0, .string ⟨#[]⟩, .string ⟨#[]⟩, .string ⟨#[]⟩, .string ⟨#[]⟩], []⟩ 8 (by kernel_rfl) (by kernel_rfl) (by kernel_rfl) (by kernel_rfl)) ?_
  intro W base args ds gs before hval0 hW hcnd hsz0 _
  have hval : ∀ (j : Nat) t v, Yba.f3.params[j]? = some t → args[j]? = some v → Value.okWide Yba.prog W .any base t v := hval0
  have hW' := hW
  obtain ⟨p, q, hA0, hV, rfl, hfz, hnd⟩ := hW
  have hA : DataW.TrodAll enc Yba.prog W 0 (fun _ => true) true Yba.f3.params.toList args.toList ds p := hA0
  have hsz : (DataW.weightsEach Yba.prog (Yba.f3.params.toList ++ Rows.lawS6603BWholeSpec.plain.varTypes Yba.prog) (ds ++ gs)).all (· ≤ reachBytes) = true := hsz0
  rw [Yba.params3] at hA hval hsz
  obtain ⟨v0, vs0, d0, ds0, p0, q0, hargs, rfl, rfl, h0, r0⟩ := trodAll_cons hA
  obtain ⟨v1, vs1, d1, ds1, p1, q1, rfl, rfl, rfl, h1, r1⟩ := trodAll_cons r0
  obtain ⟨v2, vs2, d2, ds2, p2, q2, rfl, rfl, rfl, h2, r2⟩ := trodAll_cons r1
  obtain ⟨v3, vs3, d3, ds3, p3, q3, rfl, rfl, rfl, h3, r3⟩ := trodAll_cons r2
  obtain ⟨v4, vs4, d4, ds4, p4, q4, rfl, rfl, rfl, h4, r4⟩ := trodAll_cons r3
  obtain ⟨v5, vs5, d5, ds5, p5, q5, rfl, rfl, rfl, h5, r5⟩ := trodAll_cons r4
  obtain ⟨rfl, rfl, rfl⟩ := trodAll_nil r5
  obtain rfl : args = #[v0, v1, v2, v3, v4, v5] := by cases args; simp_all
  obtain ⟨rfl, rfl⟩ := trodVars_none hV
  obtain ⟨a0, len0, cap0, rfl⟩ := okWide_slice Yba.underlying22 (hval 0 22 v0 rfl rfl)
  obtain ⟨a1, len1, cap1, rfl⟩ := okWide_slice Yba.underlying22 (hval 1 22 v1 rfl rfl)
  have k0 := h0
  have k1 := h1
  have lt0 : ∀ x ∈ p0, x.block < W.heap.size := by obtain ⟨m, hm⟩ := k0; exact DataW.trod_lt m _ _ _ hm
  have lt1 : ∀ x ∈ p1, x.block < W.heap.size := by obtain ⟨m, hm⟩ := k1; exact DataW.trod_lt m _ _ _ hm
  have wt : ∀ (j : Nat) (t : TypeId) (d : DataW H), ([22, 22, 9, 9, 9, 9] : List TypeId)[j]? = some t → [d0, d1, d2, d3, d4, d5][j]? = some d → ∀ n ∈ d.weights Yba.prog t, n ≤ reachBytes := fun j t d ht hd n hn => by
    have hsz2 : (DataW.weightsEach Yba.prog [22, 22, 9, 9, 9, 9] [d0, d1, d2, d3, d4, d5]).all (· ≤ reachBytes) = true := hsz
    exact of_decide_eq_true (List.all_eq_true.1 hsz2 _ (DataW.weights_mem_each (j := j) (t := t) (d := d) ht hd n hn))
  obtain ⟨sn, s0, b0, bs⟩ := open_strs rfl h0 (wt 0 22 d0 rfl rfl)
  obtain ⟨sv, s1, b1, _⟩ := open_strs rfl h1 (wt 1 22 d1 rfl rfl)
  obtain ⟨nm, rfl, rfl, rfl, hs2⟩ := open_string Yba.underlying9 (hval 2 9 v2 rfl rfl) h2
  obtain ⟨ns, rfl, rfl, rfl, hs3⟩ := open_string Yba.underlying9 (hval 3 9 v3 rfl rfl) h3
  obtain ⟨uid, rfl, rfl, rfl, hs4⟩ := open_string Yba.underlying9 (hval 4 9 v4 rfl rfl) h4
  obtain ⟨kd, rfl, rfl, rfl, hs5⟩ := open_string Yba.underlying9 (hval 5 9 v5 rfl rfl) h5
  clear hA0 hval0 hsz0
  refine (walk a0 len0 cap0 sn a1 len1 cap1 sv nm ns uid kd W s0 s1 b0 b1 bs).mono fun e W' ⟨he, bel⟩ => ?_
  subst he
  exact ⟨_, rfl, _, _, _, [], _, [], hW', trodAll_mk1 (shut_bool Yba.underlying4 _), (trodAll_cons_mk (Below.trod laidOut (by kernel_rfl) (of_decide_eq_true (by kernel_rfl)) k0 bel lt0) (trodAll_cons_mk (Below.trod laidOut (by kernel_rfl) (of_decide_eq_true (by kernel_rfl)) k1 bel lt1) (trodAll_cons_mk (shut_string Yba.underlying9 hs2) (trodAll_cons_mk (shut_string Yba.underlying9 hs3) (trodAll_cons_mk (shut_string Yba.underlying9 hs4) (trodAll_cons_mk (shut_string Yba.underlying9 hs5) trodAll_mk0)))))), rfl, bel.frame _, fun h => by cases h⟩

theorem over : Rows.lawS6603BWholeRow.holds Yba.pinned (OpenSpec.ofChange Rows.lawS6603BWholeSpec) :=
  OpenClaim.holds_of_wide 3 Yba.f3 rfl rfl rfl rfl rfl rfl rfl ⟨rfl, rfl, rfl, rfl, rfl⟩ rfl rfl rfl rfl rfl (by kernel_rfl) Yba.func3 (by kernel_rfl)
    (of_decide_eq_true (by kernel_rfl)) (by unfold Func.isWrapper; first | (rw [if_pos (by decide +kernel)]; kernel_rfl) | (rw [if_neg (by decide +kernel)]; exact ⟨rfl, rfl⟩))
    (fun os started H enc _ => lifted os started H enc)

/-- THE STATEMENT -/
theorem proved : Rows.LawS6603BWholeSaid := over
#print axioms proved
end Go.Proofs.Ybulkefsm.lawS6603BWhole
