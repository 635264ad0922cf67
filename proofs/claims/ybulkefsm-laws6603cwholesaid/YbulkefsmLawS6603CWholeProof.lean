import Derived.Test.YbulkefsmC2
import Derived.ProofKit
import Derived.OpenShut
import Derived.ShutString
import Derived.ChangeOld
namespace Go.Proofs.Ybulkefsm.lawS6603CWhole
open Go.ChangeShapes Go.WideShapes Go.ChangeAt Go.RowKit
open Go.ChangeMaps (open_string shut_string)
set_option linter.unusedVariables false


theorem own : ownKnob Yba.prog.godebug = none := by kernel_rfl
theorem laidOut : laidOutB Yba.prog = true := by kernel_rfl

def IsRow (k : IntKind) (w : World) (a : Option Addr) (len cap : Nat) (zs : List Int) : Prop :=
  (a = none ∧ len = 0 ∧ cap = 0 ∧ zs = []) ∨
  ∃ x, a = some x ∧ len ≤ cap ∧ cap ≤ maxLen ∧ zs.length = cap ∧ (∀ i, i < zs.length → w.cell? (x.add i) = some (.int k (zs.getD i 0))) ∧ ∀ n ∈ zs, (Lit.int k n).wf = true

/-- what the walk wants of such a slice -/
theorem IsRow.at {k : IntKind} {w : World} {a : Option Addr} {len cap : Nat} {zs : List Int} (h : IsRow k w a len cap zs) :
    len ≤ maxLen ∧ (0 < len → ∃ b off, a = some ⟨b, off, none⟩ ∧ b < w.heap.size ∧ ∀ i, i < len → w.cell? ⟨b, off + i, none⟩ = some (.int k (zs.getD i 0))) := by
  rcases h with ⟨_, rfl, _, _⟩ | ⟨x, rfl, h1, h2, h3, h4, h5⟩
  · exact ⟨Nat.zero_le _, fun h => absurd h (by omega)⟩
  · refine ⟨Nat.le_trans h1 h2, fun hp => ?_⟩
    obtain ⟨b, off, rfl, hc⟩ := ints_at h4 (by omega)
    refine ⟨b, off, rfl, ?_, fun i hi => hc i (by omega)⟩
    exact World.block_lt_of_cell? _ _ (hc 0 (by omega))

/-- what 'rd' is in round i -/
def rdAt (len1 : Nat) (z1 : List Int) (i : Nat) : Int := if i < len1 then z1.getD i 0 else 0

theorem info44 : (Yba.prog.info? 44).map (fun i => (i.zero.map (·.cells), i.size, i.bytes)) = some (some #[.int .i64 0, .int .i64 0], 2, 16) := by kernel_rfl
theorem size44 : (Yba.prog.info? 44).map (·.size) = some 2 := by kernel_rfl

theorem mk (n : Nat) (hn : n ≤ 1048576) (w : World) : (Instr.makeSlice 41 (.int .i64 (n : Int)) (.int .i64 (n : Int))).run Yba.prog w =
    .ok (.slice (some ⟨w.heap.size, 0, none⟩) n n) (w.alloc (.cells (madeCells #[.int .i64 0, .int .i64 0] (n * 2)) 44)) := by
  obtain ⟨i, hi, e⟩ := Option.map_eq_some_iff.1 info44
  simp only [Prod.mk.injEq] at e
  obtain ⟨e1, e2, e3⟩ := e
  obtain ⟨z, hz, ez⟩ := Option.map_eq_some_iff.1 e1
  have := run_make (P := Yba.prog) w 41 44 i z Yba.underlying41 hi hz .i64 .i64 n n (by omega) (by omega) (by rw [e3]; omega) (by omega)
  rw [ez, e2] at this
  simpa using this

theorem foldl_max_ge (l : List Int) : ∀ a : Int, a ≤ l.foldl max a ∧ (∀ x ∈ l, x ≤ l.foldl max a) ∧ (l.foldl max a = a ∨ l.foldl max a ∈ l) := by
  induction l with
  | nil => intro a; simp
  | cons y l ih =>
    intro a
    obtain ⟨h1, h2, h3⟩ := ih (max a y)
    simp only [List.foldl_cons, List.mem_cons]
    refine ⟨by omega, ?_, ?_⟩
    · rintro x (rfl | hx)
      · omega
      · exact h2 x hx
    · rcases h3 with h3 | h3
      · rw [h3]; omega
      · exact .inr (.inr h3)

theorem mx_facts (n : Nat) (f : Nat → Int) : 0 ≤ mx ((List.range n).map f) ∧ (∀ j, j < n → f j ≤ mx ((List.range n).map f)) ∧ (mx ((List.range n).map f) = 0 ∨ ∃ j, j < n ∧ f j = mx ((List.range n).map f)) := by
  obtain ⟨h1, h2, h3⟩ := foldl_max_ge ((List.range n).map f) 0
  refine ⟨h1, fun j hj => h2 _ (List.mem_map.2 ⟨j, List.mem_range.2 hj, rfl⟩), ?_⟩
  rcases h3 with h3 | h3
  · exact .inl h3
  · obtain ⟨j, hj, e⟩ := List.mem_map.1 h3
    exact .inr ⟨j, List.mem_range.1 hj, e⟩

/-- 'hit' behind j rounds -/
def hitB (M : Int) (f : Nat → Int) (j : Nat) : Bool := decide (M = 0) || (List.range j).any fun i => f i == M
theorem hitB_zero (M : Int) (f : Nat → Int) : hitB M f 0 = (M == 0) := by simp [hitB]; rfl
theorem hitB_succ_eq (M : Int) (f : Nat → Int) (j : Nat) (h : (f j == M) = true) : hitB M f (j + 1) = true := by
  simp only [hitB, List.range_succ, List.any_append, List.any_cons, List.any_nil, h]; simp
theorem hitB_succ_ne (M : Int) (f : Nat → Int) (j : Nat) (h : (f j == M) = false) : hitB M f (j + 1) = hitB M f j := by
  simp only [hitB, List.range_succ, List.any_append, List.any_cons, List.any_nil, h]; simp
theorem hitB_end (M : Int) (f : Nat → Int) (n : Nat) (h : M = 0 ∨ ∃ j, j < n ∧ f j = M) : hitB M f n = true := by
  rcases h with h | ⟨j, hj, h⟩
  · simp [hitB, h]
  · simp only [hitB, Bool.or_eq_true, List.any_eq_true]
    exact .inr ⟨j, List.mem_range.2 hj, by simp [h]⟩

theorem round1 {w wr : World} {k len1 len2 : Nat} {z1 z2 : List Int} (hlt : k < len2) (hz : wr.heap.size = w.heap.size + 1) (hr : RowIs wr w.heap.size len2 (fun j => if j < k then rdAt len1 z1 j else 0) (fun j => if j < k then z2.getD j 0 else 0)) (hb : Below w.heap.size w wr) (x y : Int) (hx : x = rdAt len1 z1 k) (hy : y = z2.getD k 0) :
    (∃ k_1 : Nat, k_1 ≤ len2 ∧ Value.int .i64 ((k : Int) + 1) = .int .i64 k_1 ∧ ((wr.setCell ⟨w.heap.size, k * 2, none⟩ (.int .i64 x)).setCell ⟨w.heap.size, k * 2 + 1, none⟩ (.int .i64 y)).heap.size = w.heap.size + 1 ∧
      RowIs ((wr.setCell ⟨w.heap.size, k * 2, none⟩ (.int .i64 x)).setCell ⟨w.heap.size, k * 2 + 1, none⟩ (.int .i64 y)) w.heap.size len2 (fun j => if j < k_1 then rdAt len1 z1 j else 0) (fun j => if j < k_1 then z2.getD j 0 else 0) ∧
      Below w.heap.size w ((wr.setCell ⟨w.heap.size, k * 2, none⟩ (.int .i64 x)).setCell ⟨w.heap.size, k * 2 + 1, none⟩ (.int .i64 y))) ∧
    len2 - (intOf (.int .i64 ((k : Int) + 1))).toNat < len2 - (intOf (.int .i64 (k : Int))).toNat := by
  refine ⟨⟨k + 1, by omega, by simp, by simpa [World.setCell] using hz, ?_, ?_⟩, by simp [intOf]; omega⟩
  · refine (hr.set k hlt x y).congr fun j _ => ?_
    by_cases e : j = k
    · subst e; simp [hx, hy]
    · simp only [if_neg e]
      by_cases l : j < k
      · simp [l, show j < k + 1 by omega]
      · simp [l, show ¬ j < k + 1 by omega]
  · exact (hb.setCell (Nat.le_refl _) _).setCell (Nat.le_refl _) _

set_option maxHeartbeats 1000000 in
theorem walk (a0 : Int) (a1 : Option Addr) (len1 cap1 : Nat) (z1 : List Int) (a2 : Option Addr) (len2 cap2 : Nat) (z2 : List Int) (w : World) (w0 : (Lit.int .i64 a0).wf = true) (w1 : IsRow .i64 w a1 len1 cap1 z1) (w2 : IsRow .i64 w a2 len2 cap2 z2) :
    Calls Yba.prog 4 #[.int .i64 a0, .slice a1 len1 cap1, .slice a2 len2 cap2] w fun e w' => e = .returned (.bool true) ∧ Below w.heap.size w w' := by
  obtain ⟨m1, r1⟩ := w1.at
  obtain ⟨m2, r2⟩ := w2.at
  unfold maxLen at m1 m2
  clear w0 w1 w2
  by_cases hbig : 1048576 < len2
  · go_enter Yba.func4, Yba.ntmps4
    go_wp2
    go_ret
    exact ⟨rfl, Below.refl _ _⟩
  have hsm : len2 ≤ 1048576 := by omega
  have hd : decide ((1048576 : Int) < len2) = false := by simp; omega
  have hmk := fun w => mk len2 hsm w
  have hlt : Hid (∀ k, k < len2 → True) := fun _ _ => trivial
  go_enter Yba.func4, Yba.ntmps4
  go_wp2
  go_loopw [24] (fun i wr => ∃ k : Nat, k ≤ len2 ∧ i = .int .i64 k ∧ wr.heap.size = w.heap.size + 1 ∧ RowIs wr w.heap.size len2 (fun j => if j < k then rdAt len1 z1 j else 0) (fun j => if j < k then z2.getD j 0 else 0) ∧ Below w.heap.size w wr) (fun i _ => len2 - (intOf i).toNat)
  case atStart => exact ⟨0, Nat.zero_le _, rfl, by simp, (RowIs.made w len2).congr (fun j _ => by simp), (Below.refl _ _).alloc (Nat.le_refl _) _⟩
  case round =>
    obtain ⟨k, hk, rfl, hz, hr, hb⟩ := hrel
    by_cases hlt : k < len2
    · obtain ⟨b2, o2, rfl, l2, c2⟩ := r2 (by omega)
      obtain ⟨h1, h2⟩ := hr.cell k hlt
      have f1 := hr.frozen (k * 2)
      have f2 := hr.frozen (k * 2 + 1)
      have c2k := c2 k hlt
      rw [← hb.cell (p := ⟨b2, o2 + k, none⟩) l2] at c2k
      simp only [Nat.lt_irrefl, if_false] at h1 h2
      by_cases hlt1 : k < len1
      · obtain ⟨b1, o1, rfl, l1, c1⟩ := r1 (by omega)
        have c1k := c1 k hlt1
        rw [← hb.cell (p := ⟨b1, o1 + k, none⟩) l1] at c1k
        clear c1 c2 r1 r2
        go_wp2
        exact round1 hlt hz hr hb _ _ (by simp [rdAt, hlt1]) (by simp)
      · clear c2 r1 r2
        go_wp2
        exact round1 hlt hz hr hb _ _ (by simp [rdAt, hlt1]) (by simp)
    · obtain rfl : k = len2 := by omega
      have hr' : RowIs wr w.heap.size k (rdAt len1 z1) (fun j => z2.getD j 0) := hr.congr fun j hj => by simp [hj]
      have hg1 := hr'.lt
      clear hr r1
      have HR1 := hide hr'
      clear hr'
      go_wp2_with (refine wpList_copy_pairs rfl (.tmp 48) (.tmp 49) 41 41 rfl Yba.underlying41 size44 (w.heap.size + 1) k k w.heap.size k rfl rfl (rdAt len1 z1) (fun j => z2.getD j 0) (fun _ => 0) (fun _ => 0) (hz ▸ RowIs.made wr k) (HR1.out.same (Go.heap_alloc_old wr _ hg1)) ?_)
      intro w3 hr3 hgr3 hz3
      have hb3 : Below w.heap.size w w3 := (hb.alloc (by omega) _).grown hgr3 (by simp; omega) (by simp)
      have hr3' : RowIs w3 w.heap.size k (rdAt len1 z1) (fun j => z2.getD j 0) := (HR1.out.same (Go.heap_alloc_old wr _ hg1)).same (hgr3.block _ (by simp; omega) (by simp))
      have hz3' : w3.heap.size = w.heap.size + 2 := by rw [hz3]
      clear hz3
      have Hgr := hide hgr3
      clear hgr3
      go_wp2_with fail
      have hlt3 : w.heap.size < w3.heap.size := by omega
      refine (maxRes a0 w.heap.size k (rdAt len1 z1) (fun j => z2.getD j 0) _ hsm (fun j hj => (hr3'.same (Go.heap_alloc_old w3 _ hlt3)).cell j hj)).mono ?_
      rintro e w4 ⟨rfl, hb4⟩
      have hrA : RowIs w4 w.heap.size k (rdAt len1 z1) (fun j => z2.getD j 0) := (hr3'.same (Go.heap_alloc_old w3 _ hlt3)).below hb4 (by simp; omega)
      have hrB : RowIs w4 (w.heap.size + 1) k (rdAt len1 z1) (fun j => z2.getD j 0) := (RowIs.same hr3 (Go.heap_alloc_old w3 _ (by omega))).below hb4 (by simp; omega)
      have d0 : w4.cell? ⟨w.heap.size + 2, 0, none⟩ = some (.int .i64 a0) := by
        rw [hb4.cell (p := ⟨w.heap.size + 2, 0, none⟩) (by simp; omega), ← hz3']; simp
      have d1 : w4.cell? ⟨w.heap.size + 2, 1, none⟩ = some (.slice (some ⟨w.heap.size, 0, none⟩) k k) := by
        rw [hb4.cell (p := ⟨w.heap.size + 2, 1, none⟩) (by simp; omega), ← hz3']; simp
      have hb5 : Below w.heap.size w w4 := (hb3.alloc (by omega) _).trans (hb4.mono (by simp; omega))
      have hz4 : w.heap.size + 3 ≤ w4.heap.size := by have := hb4.size; simp at this; omega
      obtain ⟨M0, Mge, Mmem⟩ := mx_facts k (fun j => z2.getD j 0)
      have HM := hide Mmem
      have HrA := hide hrA
      have HrB := hide hrB
      have Hb5 := hide hb5
      clear Mmem hrA hrB hb5 hr3 hr3' HR1 Hgr hb3 hb4 hz hz3' hmk hb hg1 hlt3
      generalize mx ((List.range k).map fun j => z2.getD j 0) = M at *
      have hM : ¬ M < 0 := by omega
      go_wp2
      go_loopw [70] (fun i wx => ∃ j : Nat, j ≤ k ∧ i = .int .i64 j ∧ Below w4.heap.size w4 wx) (fun i _ => k - (intOf i).toNat)
      case atStart => exact ⟨0, Nat.zero_le _, rfl, Below.refl _ _⟩
      case round =>
        obtain ⟨j, hj, rfl, hbx⟩ := hrel
        by_cases hjl : j < k
        · obtain ⟨p1, p2⟩ := HrA.out.cell j hjl
          obtain ⟨q1, q2⟩ := HrB.out.cell j hjl
          rw [← hbx.cell (p := ⟨w.heap.size, j * 2, none⟩) (by simp; omega)] at p1
          rw [← hbx.cell (p := ⟨w.heap.size, j * 2 + 1, none⟩) (by simp; omega)] at p2
          rw [← hbx.cell (p := ⟨w.heap.size + 1, j * 2, none⟩) (by simp; omega)] at q1
          rw [← hbx.cell (p := ⟨w.heap.size + 1, j * 2 + 1, none⟩) (by simp; omega)] at q2
          clear r2 Mge
          go_wp2
          go_quiet (fail)
          go_wp2
          exact ⟨⟨j + 1, by omega, by go_num, below_drewN hbx nq⟩, by simp [intOf]; omega⟩
        · have hjk : j = k := by omega
          subst hjk
          have hbw : Below w.heap.size w wr := Hb5.out.trans (hbx.mono (by omega))
          clear hbx HrA HrB d0 d1 Hb5
          have Hhit := hide (hitB_zero M (fun j => z2.getD j 0))
          go_wp2
          go_loopw [14, 89] (fun h i wx => ∃ i' : Nat, i' ≤ j ∧ i = .int .i64 i' ∧ h = .bool (hitB M (fun j => z2.getD j 0) i') ∧ wx = wr) (fun _ i _ => j - (intOf i).toNat)
          case atStart => exact ⟨0, Nat.zero_le _, rfl, by rw [Hhit.out], rfl⟩
          case round =>
            obtain ⟨i, hi, rfl, rfl, rfl⟩ := hrel
            by_cases hil : i < j
            · obtain ⟨b2, o2, rfl, l2, c2⟩ := r2 (by omega)
              have c2i := c2 i hil
              rw [← hbw.cell (p := ⟨b2, o2 + i, none⟩) l2] at c2i
              have hge : z2[i]?.getD 0 ≤ M := by have := Mge i hil; simpa using this
              have HE := hide (hitB_succ_eq M (fun j => z2.getD j 0) i)
              have HN := hide (hitB_succ_ne M (fun j => z2.getD j 0) i)
              clear c2 r2 Mge
              generalize hitB M (fun j => z2.getD j 0) i = B0 at *
              go_wp2
              · rename_i he
                refine ⟨⟨i + 1, by omega, by go_num, by rw [HE.out (by simpa using he)], trivial⟩, by simp [intOf]; omega⟩
              · rename_i he
                refine ⟨⟨i + 1, by omega, by go_num, by rw [HN.out (by simpa using he)], trivial⟩, by simp [intOf]; omega⟩
            · have hij : i = j := by omega
              subst hij
              have HF := hide (hitB_end M (fun j => z2.getD j 0) i HM.out)
              go_wp2
              go_ret
              exact ⟨by rw [HF.out]; rfl, hbw⟩

set_option maxRecDepth 100000 in
theorem lifted (os : Os) (started : os.Started) (H : Type) (enc : TypeId × Value → H) :
    ReturnsInHanded {} Yba.checked os 4 .any (Rows.lawS6603CWholeSpec.pre6 enc Yba.prog Yba.f4 Rows.lawS6603CWholeRow.domain false) (Rows.lawS6603CWholeSpec.post enc Yba.prog Yba.f4 false true false false) := by
  refine returnsInHanded_of_change (C := Yba.checked) own started (by kernel_rfl) Yba.func4
    (ChangeSpec.witness6 (enc := enc) (C := Yba.checked) false ⟨#[], #[.int .i64 0, .slice none 0 0, .slice none 0 0], []⟩ 8 (by kernel_rfl) (by kernel_rfl) (by kernel_rfl) (by kernel_rfl)) ?_
  intro W base args ds gs before hval0 hW hcnd _
  have hval : ∀ (j : Nat) t v, Yba.f4.params[j]? = some t → args[j]? = some v → Value.okWide Yba.prog W .any base t v := hval0
  have hW' := hW
  obtain ⟨p, q, hA0, hV, rfl, hfz, hnd⟩ := hW
  have hA : DataW.TrodAll enc Yba.prog W 0 (fun _ => true) true Yba.f4.params.toList args.toList ds p := hA0
  rw [Yba.params4] at hA hval
  obtain ⟨v0, vs0, d0, ds0, p0, q0, hargs, rfl, rfl, h0, r0⟩ := trodAll_cons hA
  obtain ⟨v1, vs1, d1, ds1, p1, q1, rfl, rfl, rfl, h1, r1⟩ := trodAll_cons r0
  obtain ⟨v2, vs2, d2, ds2, p2, q2, rfl, rfl, rfl, h2, r2⟩ := trodAll_cons r1
  obtain ⟨rfl, rfl, rfl⟩ := trodAll_nil r2
  obtain rfl : args = #[v0, v1, v2] := by cases args; simp_all
  obtain ⟨rfl, rfl⟩ := trodVars_none hV
  obtain ⟨a0, rfl, rfl, rfl, w0⟩ := open_int Yba.underlying2 (hval 0 2 v0 rfl rfl) h0
  obtain ⟨a1, len1, cap1, rfl⟩ := okWide_slice Yba.underlying40 (hval 1 40 v1 rfl rfl)
  have k1 := h1
  have lt1 : ∀ x ∈ p1, x.block < W.heap.size := by obtain ⟨m, hm⟩ := k1; exact DataW.trod_lt m _ _ _ hm
  obtain ⟨z1, w1⟩ : ∃ zs, IsRow .i64 W a1 len1 cap1 zs := by
    obtain ⟨fuel, hf⟩ := h1
    rcases open_ints Yba.underlying40 Yba.underlying2 (by kernel_rfl) hf with ⟨hcs, _⟩ | ⟨x, l, c, zs, hcs, _, hl, hm, hz, _, hcell, hwz⟩
    · simp [Value.cells] at hcs
      obtain ⟨rfl, rfl, rfl⟩ := hcs
      exact ⟨[], .inl ⟨rfl, rfl, rfl, rfl⟩⟩
    · simp [Value.cells] at hcs
      obtain ⟨rfl, rfl, rfl⟩ := hcs
      exact ⟨zs, .inr ⟨_, rfl, hl, hm, by simpa using hz, hcell, hwz⟩⟩
  obtain ⟨a2, len2, cap2, rfl⟩ := okWide_slice Yba.underlying40 (hval 2 40 v2 rfl rfl)
  have k2 := h2
  have lt2 : ∀ x ∈ p2, x.block < W.heap.size := by obtain ⟨m, hm⟩ := k2; exact DataW.trod_lt m _ _ _ hm
  obtain ⟨z2, w2⟩ : ∃ zs, IsRow .i64 W a2 len2 cap2 zs := by
    obtain ⟨fuel, hf⟩ := h2
    rcases open_ints Yba.underlying40 Yba.underlying2 (by kernel_rfl) hf with ⟨hcs, _⟩ | ⟨x, l, c, zs, hcs, _, hl, hm, hz, _, hcell, hwz⟩
    · simp [Value.cells] at hcs
      obtain ⟨rfl, rfl, rfl⟩ := hcs
      exact ⟨[], .inl ⟨rfl, rfl, rfl, rfl⟩⟩
    · simp [Value.cells] at hcs
      obtain ⟨rfl, rfl, rfl⟩ := hcs
      exact ⟨zs, .inr ⟨_, rfl, hl, hm, by simpa using hz, hcell, hwz⟩⟩
  clear hA0 hval0
  refine (walk a0 a1 len1 cap1 z1 a2 len2 cap2 z2 W w0 w1 w2).mono fun e W' ⟨he, bel⟩ => ?_
  subst he
  exact ⟨_, rfl, _, _, _, [], _, [], hW', trodAll_mk1 (shut_bool Yba.underlying4 _), (trodAll_cons_mk (shut_int Yba.underlying2 w0) (trodAll_cons_mk (Below.trod laidOut (by kernel_rfl) (of_decide_eq_true (by kernel_rfl)) k1 bel lt1) (trodAll_cons_mk (Below.trod laidOut (by kernel_rfl) (of_decide_eq_true (by kernel_rfl)) k2 bel lt2) trodAll_mk0))), rfl, bel.frame _, fun h => by cases h⟩

theorem over : Rows.lawS6603CWholeRow.holds Yba.pinned (OpenSpec.ofChange Rows.lawS6603CWholeSpec) :=
  OpenClaim.holds_of_wide 4 Yba.f4 rfl rfl rfl rfl rfl rfl rfl ⟨rfl, rfl, rfl, rfl, rfl⟩ rfl rfl rfl rfl rfl (by kernel_rfl) Yba.func4 (by kernel_rfl)
    (of_decide_eq_true (by kernel_rfl)) (by unfold Func.isWrapper; first | (rw [if_pos (by decide +kernel)]; kernel_rfl) | (rw [if_neg (by decide +kernel)]; exact ⟨rfl, rfl⟩))
    (fun os started H enc _ => lifted os started H enc)

/-- ████ THE STATEMENT ████ -/
theorem proved : Rows.LawS6603CWholeSaid := over
#print axioms proved
end Go.Proofs.Ybulkefsm.lawS6603CWhole
