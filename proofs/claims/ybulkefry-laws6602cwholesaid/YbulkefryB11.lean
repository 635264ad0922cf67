import Derived.Test.YbulkefryB10
namespace Go.Proofs.Ybulkefry
open Go.RowKit

/-- what the law is told of the classes that came in -/
structure InpC (w : World) (a1 : Option Addr) (n : Nat) (D : Nat → Int × Int × Bool) : Prop where
  elem : 0 < n → ∃ eb eo, a1 = some ⟨eb, eo, none⟩ ∧ eb < w.heap.size ∧ ∀ i, i < n → w.cell? ⟨eb, eo + i * 3, none⟩ = some (.int .i32 (D i).1) ∧ w.cell? ⟨eb, eo + i * 3 + 1, none⟩ = some (.int .i32 (D i).2.1) ∧ w.cell? ⟨eb, eo + i * 3 + 2, none⟩ = some (.bool (D i).2.2)
  bnd : ∀ i, i < n → (-2147483648 ≤ (D i).1 ∧ (D i).1 ≤ 2147483647) ∧ (-2147483648 ≤ (D i).2.1 ∧ (D i).2.1 ≤ 2147483647)

/-- what the classes sorted and hung give -/
def BuiltOK (n : Nat) (D : Nat → Int × Int × Bool) (S G : Nat) (W w' : World) (r : Int) : Prop :=
  ∃ (nd : Nat → Nat → Int) (L : List (Int × Int × Bool)) (f : Nat), Nds w' S G (n + 1) (n + 1) nd ∧ Tr nd (n + 1) f 1 r L ∧ L.Pairwise (fun a b => a.1 ≤ b.1) ∧ (∀ c, c ∈ L ↔ ∃ i, i < n ∧ c = D i) ∧ (-2147483648 ≤ r ∧ r ≤ 2147483647) ∧ Kept (fun j => j = S ∨ j = G) W w'

/-- the nodes' cells, one after the other -/
def cellsN (nd : Nat → Nat → Int) (K : Nat) : List Value := (List.range (K * 11)).map (fun i => .int (kd (i % 11)) (nd (i / 11) (i % 11)))
theorem cellsN_at (nd : Nat → Nat → Int) (K j t : Nat) (hj : j < K) (ht : t < 11) : (cellsN nd K)[j * 11 + t]? = some (.int (kd t) (nd j t)) := by
  have h1 : (j * 11 + t) % 11 = t := by omega
  have h2 : (j * 11 + t) / 11 = j := by omega
  have h3 : j * 11 + t < K * 11 := by omega
  simp [cellsN, h1, h2, h3]
theorem cellsN_read {w : World} {G N K : Nat} {nd : Nat → Nat → Int} (h : NodesAt w G N N nd) (hK : K ≤ N) (i : Nat) (u : Value) (hu : (cellsN nd K)[i]? = some u) : w.cell? ⟨G, i, none⟩ = some u := by
  have hi : i < K * 11 := by
    have := (List.getElem?_eq_some_iff.1 hu).1
    simpa [cellsN] using this
  have e : i = i / 11 * 11 + i % 11 := by omega
  rw [e] at hu ⊢
  rw [cellsN_at nd K _ _ (by omega) (by omega)] at hu
  rw [← hu]
  exact h.cell (by omega) (by omega)

theorem made_nds (w : World) (n : Nat) : Nds ((w.alloc (.cells (madeCells #[.int .i64 0, .int .i64 0, .int .i64 0, .int .i64 0, .int .i64 0, .int .i64 0, .int .i64 0, .int .u64 0, .int .i32 0, .int .i32 0, .int .i32 0] ((n + 1) * 11)) 37)).alloc (.cells #[.slice (some ⟨w.heap.size, 0, none⟩) 1 (n + 1)] 29)) (w.heap.size + 1) w.heap.size (n + 1) 1 (fun _ _ => 0) where
  var := by
    have := heap_alloc_new (w.alloc (.cells (madeCells #[.int .i64 0, .int .i64 0, .int .i64 0, .int .i64 0, .int .i64 0, .int .i64 0, .int .i64 0, .int .u64 0, .int .i32 0, .int .i32 0, .int .i32 0] ((n + 1) * 11)) 37)) (.cells #[.slice (some ⟨w.heap.size, 0, none⟩) 1 (n + 1)] 29)
    simpa using this
  row := (made_row w (n + 1)).same (Go.heap_alloc_old _ _ (by simp))

theorem El.next {x clk : Int} {D : Nat → Int × Int × Bool} {j : Nat} (r : Int) : El x clk (fun c => ∃ i, i < j + 1 ∧ c = D i) r ↔ (El x clk (fun c => ∃ i, i < j ∧ c = D i) r ∨ El x clk (fun c => c = D j) r) := by
  constructor
  · rintro ⟨c, ⟨i, hi, rfl⟩, h⟩
    by_cases e : i = j
    · exact .inr ⟨D i, by rw [e], h⟩
    · exact .inl ⟨D i, ⟨i, by omega, rfl⟩, h⟩
  · rintro (⟨c, ⟨i, hi, rfl⟩, h⟩ | ⟨c, rfl, h⟩)
    · exact ⟨D i, ⟨i, by omega, rfl⟩, h⟩
    · exact ⟨D j, ⟨j, by omega, rfl⟩, h⟩
theorem Best.skip {x clk want : Int} {wok : Bool} {D : Nat → Int × Int × Bool} {j : Nat} (h : Best (El x clk (fun c => ∃ i, i < j ∧ c = D i)) want wok) (hs : (D j).2.2 = true ∨ x < (D j).1) : Best (El x clk (fun c => ∃ i, i < j + 1 ∧ c = D i)) want wok :=
  h.congr fun r => by
    rw [El.next]
    refine ⟨fun h => h.elim id ?_, .inl⟩
    rintro ⟨c, rfl, h1, h2, _⟩
    rcases hs with hs | hs
    · rw [hs] at h1; cases h1
    · omega
theorem Best.next {x clk want v : Int} {wok : Bool} {D : Nat → Int × Int × Bool} {j : Nat} (h : Best (El x clk (fun c => ∃ i, i < j ∧ c = D i)) want wok) (h1 : (D j).2.2 = false) (h2 : (D j).1 ≤ x) (hv : rv clk (D j) = v) : Best (El x clk (fun c => ∃ i, i < j + 1 ∧ c = D i)) (accR want wok v) true := by
  subst hv
  exact (h.take (El.one h1 h2).1 (El.one h1 h2).2).congr (fun r => El.next r)

set_option maxRecDepth 100000 in
set_option maxHeartbeats 8000000 in
theorem walkG (CK SK : World → Value → Prop) (a1 : Option Addr) (n cap1 : Nat) (D : Nat → Int × Int × Bool) (clock x : Int) (w : World) (hn : n ≤ 65536) (hI : InpC w a1 n D) (hclk : -2147483648 ≤ clock ∧ clock ≤ 2147483647)
    (hclone : Calls Yba.prog 4 #[.slice a1 n cap1] w fun e w1 => ∃ p cap', e = .returned (.slice p n cap') ∧ Below w.heap.size w w1 ∧ CK w1 (.slice p n cap'))
    (hsort : ∀ w1 sv, CK w1 sv → Calls Yba.prog 5 #[sv, .func (.func 6) #[] #[]] w1 fun e w2 => e = .returned (.tuple #[]) ∧ Below w.heap.size w1 w2 ∧ SK w2 sv)
    (hbuild : ∀ w2 sv, SK w2 sv → ∀ W, Below w2.heap.size w2 W → ∀ S G, w2.heap.size ≤ S → w2.heap.size ≤ G → S ≠ G → Nds W S G (n + 1) 1 (fun _ _ => 0) → Calls Yba.prog 8 #[.pointer (some ⟨S, 0, none⟩), sv, .int .i64 0, .int .i32 0] W fun e w' => ∃ r, e = .returned (.int .i32 r) ∧ BuiltOK n D S G W w' r) :
    Calls Yba.prog 3 #[.slice a1 n cap1, .int .i32 clock, .int .i64 x] w fun e w' => e = .returned (.bool true) ∧ Below w.heap.size w w' := by
  have HI := hide hI
  have HSO := hide hsort
  have HBU := hide hbuild
  have hmk := fun W => mkN n hn W
  have q1 : decide ((65536 : Int) < n) = false := by simp; omega
  clear hI hsort hbuild
  go_enter Yba.func3, Yba.ntmps3
  go_wp2_with fail
  refine hclone.mono ?_
  rintro e w1 ⟨p, cap', rfl, hb1, hck⟩
  have HB1 := hide hb1
  have HSO1 := hide (HSO.out w1 _ hck)
  clear hb1 hck hclone HSO
  go_wp2_with fail
  refine HSO1.out.mono ?_
  rintro e w2 ⟨rfl, hb2, hsk⟩
  have HB2 := hide (HB1.out.trans hb2)
  have HBU2 := hide (HBU.out w2 _ hsk)
  clear hb2 hsk HBU HB1 HSO1
  go_wp2_with fail
  refine (HBU2.out _ (((Below.refl _ _).alloc (Nat.le_refl _) _).alloc (by simp) _) (w2.heap.size + 1) w2.heap.size (by omega) (by omega) (by omega) (made_nds w2 n)).mono ?_
  rintro e w3 ⟨r, rfl, nd, L, f, hN3, hT, hS, hmem, hr, hK3⟩
  have s1 : w3.cell? ⟨w2.heap.size + 1, 0, none⟩ = some (.slice (some ⟨w2.heap.size, 0, none⟩) (n + 1) (n + 1)) := by rw [cell_of_row w3 _ 0 _ 29 _ hN3.var]; rfl
  have hz3 : w2.heap.size + 2 ≤ w3.heap.size := by
    have := hK3.size
    simpa using this
  have HB3 : Hid (Below w.heap.size w w3) := HB2.out.trans ⟨hK3.os, hK3.tape, hK3.output, by omega, fun k hk => by
    have hk2 := HB2.out.size
    rw [hK3.block k (by simp; omega) (by omega), Go.heap_alloc_old _ _ (by simp; omega), Go.heap_alloc_old _ _ (by omega)]⟩
  have HCL := hide (cloneN ⟨w2.heap.size, 0, none⟩ (n + 1) (n + 1) (cellsN nd (n + 1)) w3 (by simp [cellsN]) (fun j u hu => by
    rw [Addr.add_lit, Nat.zero_add]
    exact cellsN_read hN3.row (Nat.le_refl _) j u hu) (fun u hu => by
    simp [cellsN] at hu
    obtain ⟨i, _, rfl⟩ := hu
    rfl) (by omega))
  have HN3 := hide hN3
  have HT := hide hT
  have HS := hide hS
  have HM := hide hmem
  clear hN3 hT hS hmem hK3 HBU2
  go_wp2_with fail
  refine HCL.out.mono ?_
  rintro e w4 ⟨v4, rfl, ho4, hv4, hb4⟩
  obtain ⟨b4, c4, rfl, hb4l, hrd4⟩ : ∃ b4 c4, v4 = .slice (some ⟨b4, 0, none⟩) (n + 1) c4 ∧ w3.heap.size ≤ b4 ∧ ∀ j u, (cellsN nd (n + 1))[j]? = some u → w4.cell? ⟨b4, j, none⟩ = some u := by
    rcases ho4.2 with ⟨h, _⟩ | ⟨g, cp, cur, h, hbg, _⟩
    · exact absurd h hv4
    · refine ⟨g, cp, h, hbg, fun j u hj => ?_⟩
      have := ho4.cells (g := g) (by rw [h]; rfl) j u hj
      rwa [Addr.add_lit, Nat.zero_add] at this
  have hz4 := hb4.size
  have s2 : w4.cell? ⟨w2.heap.size + 1, 0, none⟩ = some (.slice (some ⟨w2.heap.size, 0, none⟩) (n + 1) (n + 1)) := (hb4.cell (p := ⟨w2.heap.size + 1, 0, none⟩) (by simp; omega)).trans s1
  have HRD4 := hide hrd4
  have HB4 := hide hb4
  have HBW4 := hide (HB3.out.trans (hb4.mono HB3.out.size))
  have s3 : ∀ u, (w4.alloc (.cells #[u] 2)).cell? ⟨w2.heap.size + 1, 0, none⟩ = some (.slice (some ⟨w2.heap.size, 0, none⟩) (n + 1) (n + 1)) := fun u => by
    rw [World.cell?_alloc_lt _ _ _ (by simp; omega)]
    exact s2
  have ne1 : w2.heap.size + 1 ≠ w4.heap.size := by omega
  clear ho4 hv4 hrd4 hb4 s1 HCL
  go_wp2_with fail
  have hold : ∀ k, k < w4.heap.size → ((w4.alloc (.cells #[.int .i64 clock] 2)).alloc (.cells #[.float .f64 0, .pointer (some ⟨w4.heap.size, 0, none⟩), .slice (some ⟨w2.heap.size, 0, none⟩) (n + 1) (n + 1), .int .i32 r, .slice none 0 0, .slice none 0 0, .slice none 0 0, .slice none 0 0, .slice none 0 0, .map none, .slice none 0 0, .slice none 0 0, .int .i64 0, .slice none 0 0, .slice none 0 0, .slice none 0 0, .int .i64 0, .int .i64 0, .int .i32 0, .int .i32 0] 50)).heap[k]? = w4.heap[k]? := fun k hk => by rw [Go.heap_alloc_old _ _ (by simp; omega), Go.heap_alloc_old _ _ hk]
  have hckb : ((w4.alloc (.cells #[.int .i64 clock] 2)).alloc (.cells #[.float .f64 0, .pointer (some ⟨w4.heap.size, 0, none⟩), .slice (some ⟨w2.heap.size, 0, none⟩) (n + 1) (n + 1), .int .i32 r, .slice none 0 0, .slice none 0 0, .slice none 0 0, .slice none 0 0, .slice none 0 0, .map none, .slice none 0 0, .slice none 0 0, .int .i64 0, .slice none 0 0, .slice none 0 0, .slice none 0 0, .int .i64 0, .int .i64 0, .int .i32 0, .int .i32 0] 50)).heap[w4.heap.size]? = some (.cells #[.int .i64 clock] 2 (0, 0)) := by rw [Go.heap_alloc_old _ _ (by simp)]; exact heap_alloc_new w4 _
  have hplb : ((w4.alloc (.cells #[.int .i64 clock] 2)).alloc (.cells #[.float .f64 0, .pointer (some ⟨w4.heap.size, 0, none⟩), .slice (some ⟨w2.heap.size, 0, none⟩) (n + 1) (n + 1), .int .i32 r, .slice none 0 0, .slice none 0 0, .slice none 0 0, .slice none 0 0, .slice none 0 0, .map none, .slice none 0 0, .slice none 0 0, .int .i64 0, .slice none 0 0, .slice none 0 0, .slice none 0 0, .int .i64 0, .int .i64 0, .int .i32 0, .int .i32 0] 50)).heap[w4.heap.size + 1]? = some (.cells #[.float .f64 0, .pointer (some ⟨w4.heap.size, 0, none⟩), .slice (some ⟨w2.heap.size, 0, none⟩) (n + 1) (n + 1), .int .i32 r, .slice none 0 0, .slice none 0 0, .slice none 0 0, .slice none 0 0, .slice none 0 0, .map none, .slice none 0 0, .slice none 0 0, .int .i64 0, .slice none 0 0, .slice none 0 0, .slice none 0 0, .int .i64 0, .int .i64 0, .int .i32 0, .int .i32 0] 50 (0, 0)) := by
    have := heap_alloc_new (w4.alloc (.cells #[.int .i64 clock] 2)) (.cells #[.float .f64 0, .pointer (some ⟨w4.heap.size, 0, none⟩), .slice (some ⟨w2.heap.size, 0, none⟩) (n + 1) (n + 1), .int .i32 r, .slice none 0 0, .slice none 0 0, .slice none 0 0, .slice none 0 0, .slice none 0 0, .map none, .slice none 0 0, .slice none 0 0, .int .i64 0, .slice none 0 0, .slice none 0 0, .slice none 0 0, .int .i64 0, .int .i64 0, .int .i32 0, .int .i32 0] 50)
    simpa using this
  have hsz6 : ((w4.alloc (.cells #[.int .i64 clock] 2)).alloc (.cells #[.float .f64 0, .pointer (some ⟨w4.heap.size, 0, none⟩), .slice (some ⟨w2.heap.size, 0, none⟩) (n + 1) (n + 1), .int .i32 r, .slice none 0 0, .slice none 0 0, .slice none 0 0, .slice none 0 0, .slice none 0 0, .map none, .slice none 0 0, .slice none 0 0, .int .i64 0, .slice none 0 0, .slice none 0 0, .slice none 0 0, .int .i64 0, .int .i64 0, .int .i32 0, .int .i32 0] 50)).heap.size = w4.heap.size + 2 := by simp
  have HBW6 : Hid (Below w.heap.size w ((w4.alloc (.cells #[.int .i64 clock] 2)).alloc (.cells #[.float .f64 0, .pointer (some ⟨w4.heap.size, 0, none⟩), .slice (some ⟨w2.heap.size, 0, none⟩) (n + 1) (n + 1), .int .i32 r, .slice none 0 0, .slice none 0 0, .slice none 0 0, .slice none 0 0, .slice none 0 0, .map none, .slice none 0 0, .slice none 0 0, .int .i64 0, .slice none 0 0, .slice none 0 0, .slice none 0 0, .int .i64 0, .int .i64 0, .int .i32 0, .int .i32 0] 50))) := (HBW4.out.alloc HBW4.out.size _).alloc (by have := HBW4.out.size; simp; omega) _
  generalize ((w4.alloc (.cells #[.int .i64 clock] 2)).alloc (.cells #[.float .f64 0, .pointer (some ⟨w4.heap.size, 0, none⟩), .slice (some ⟨w2.heap.size, 0, none⟩) (n + 1) (n + 1), .int .i32 r, .slice none 0 0, .slice none 0 0, .slice none 0 0, .slice none 0 0, .slice none 0 0, .map none, .slice none 0 0, .slice none 0 0, .int .i64 0, .slice none 0 0, .slice none 0 0, .slice none 0 0, .int .i64 0, .int .i64 0, .int .i32 0, .int .i32 0] 50)) = W6 at *
  have HOLD := hide hold
  have hN6 : NodesAt W6 w2.heap.size (n + 1) (n + 1) nd := HN3.out.row.same ((hold _ (by omega)).trans (HB4.out.block _ (by omega)))
  refine (mrw W6 (w4.heap.size + 1) w4.heap.size w2.heap.size (n + 1) (n + 1) clock r x nd L f ⟨⟨_, hplb, rfl, rfl, rfl, rfl⟩, by rw [cell_of_row W6 _ 0 _ 2 _ hckb]; rfl⟩ hN6 HT.out HS.out hclk (fun c hc => ?_) (by omega) (by omega)).mono ?_
  · obtain ⟨i, hi, rfl⟩ := (HM.out c).1 hc
    exact (HI.out.bnd i hi).2
  rintro e w5 ⟨rm, ok, rfl, hbest, hb5⟩
  have hz5 := hb5.size
  have k0 : w5.cell? ⟨w4.heap.size, 0, none⟩ = some (.int .i64 clock) := by rw [hb5.cell (p := ⟨w4.heap.size, 0, none⟩) (by simp; omega), cell_of_row W6 _ 0 _ 2 _ hckb]; rfl
  have k2 : w5.cell? ⟨w4.heap.size + 1, 2, none⟩ = some (.slice (some ⟨w2.heap.size, 0, none⟩) (n + 1) (n + 1)) := by rw [hb5.cell (p := ⟨w4.heap.size + 1, 2, none⟩) (by simp; omega), cell_of_row W6 _ 2 _ 50 _ hplb]; rfl
  have k3 : w5.cell? ⟨w4.heap.size + 1, 3, none⟩ = some (.int .i32 r) := by rw [hb5.cell (p := ⟨w4.heap.size + 1, 3, none⟩) (by simp; omega), cell_of_row W6 _ 3 _ 50 _ hplb]; rfl
  have HEQ : Hid (∀ W, Below w5.heap.size w5 W → Calls Yba.prog 11 #[.slice (some ⟨w2.heap.size, 0, none⟩) (n + 1) (n + 1), .slice (some ⟨b4, 0, none⟩) (n + 1) c4] W fun e w' => e = .returned (.bool true) ∧ ∃ q, w' = W.drewN q) := fun W hW => by
    have hrd := HRD4.out
    have hb4z : b4 < w4.heap.size := by
      have := World.block_lt_of_cell? _ _ (hrd 0 _ (cellsN_at nd (n + 1) 0 0 (by omega) (by omega)))
      exact this
    refine equalN W w2.heap.size b4 (n + 1) (n + 1) c4 nd (by omega) (fun j hj t ht => ?_) (fun j hj t ht => ?_)
    · rw [hW.cell (p := ⟨w2.heap.size, j * 11 + t, none⟩) (by simp; omega), hb5.cell (p := ⟨w2.heap.size, j * 11 + t, none⟩) (by simp; omega)]
      exact hN6.cell hj ht
    · rw [hW.cell (p := ⟨b4, j * 11 + t, none⟩) (by simp; omega), hb5.cell (p := ⟨b4, j * 11 + t, none⟩) (by simp; omega), World.cell?_of_block (a := ⟨b4, j * 11 + t, none⟩) (HOLD.out b4 hb4z)]
      exact hrd _ _ (cellsN_at nd (n + 1) j t hj ht)
  have HBEST := hide hbest
  have HBW5 := hide (HBW6.out.trans (hb5.mono HBW6.out.size))
  clear hbest hb5 hold hckb hplb hN6 s2 s3
  by_cases hxc : clock ≤ x
  · have hxc' : decide (clock ≤ x) = true := by simp [hxc]
    go_wp2
    go_loopw [15, 16, 53] (fun a b i wr => ∃ (j : Nat) (want : Int) (wok : Bool), j ≤ n ∧ i = .int .i64 j ∧ a = .bool wok ∧ b = .int .i64 want ∧ Hid (Best (El x clock (fun c => ∃ i, i < j ∧ c = D i)) want wok) ∧ Hid (Below w5.heap.size w5 wr)) (fun _ _ i _ => n - (intOf i).toNat)
    case atStart => exact ⟨0, 0, false, Nat.zero_le _, rfl, rfl, rfl, Best.none.congr (fun r => ⟨fun ⟨c, ⟨i, hi, _⟩, _⟩ => absurd hi (by omega), False.elim⟩), Below.refl _ _⟩
    case round =>
      obtain ⟨j, want, wok, hj, rfl, rfl, rfl, iB, iW⟩ := hrel
      by_cases hjn : j < n
      · obtain ⟨eb, eo, ea1, heb, hel⟩ := HI.out.elem (by omega)
        subst ea1
        obtain ⟨c0, c1, c2⟩ := hel j hjn
        have hbw := HBW5.out.trans (iW.out.mono HBW5.out.size)
        rw [← hbw.cell (p := ⟨eb, eo + j * 3, none⟩) heb] at c0
        rw [← hbw.cell (p := ⟨eb, eo + j * 3 + 1, none⟩) heb] at c1
        rw [← hbw.cell (p := ⟨eb, eo + j * 3 + 2, none⟩) heb] at c2
        have hzw := iW.out.size
        have y0 : wr.cell? ⟨w4.heap.size, 0, none⟩ = some (.int .i64 clock) := (iW.out.cell (p := ⟨w4.heap.size, 0, none⟩) (by simp; omega)).trans k0
        have y0' : ∀ o, (wr.alloc o).cell? ⟨w4.heap.size, 0, none⟩ = some (.int .i64 clock) := fun o => by
          rw [World.cell?_alloc_lt _ _ _ (by simp; omega)]
          exact y0
        have ne2 : w4.heap.size ≠ wr.heap.size := by omega
        obtain ⟨⟨d1, d2⟩, d3, d4⟩ := HI.out.bnd j hjn
        have HD1 := hide (show (D j).1 = (D j).1 from rfl)
        have hD1 : ∃ ld, (D j).1 = ld := ⟨_, rfl⟩
        have hD2 : ∃ rmc, (D j).2.1 = rmc := ⟨_, rfl⟩
        have hD3 : ∃ vc, (D j).2.2 = vc := ⟨_, rfl⟩
        obtain ⟨ld, e1⟩ := hD1
        obtain ⟨rmc, e2⟩ := hD2
        obtain ⟨vc, e3⟩ := hD3
        rw [e1] at c0 d1 d2
        rw [e2] at c1 d3 d4
        rw [e3] at c2
        have E1 := hide e1
        have E2 := hide e2
        have E3 := hide e3
        clear e1 e2 e3 hel HD1 hbw k2 k3
        cases vc with
        | true =>
          go_wp2
          exact ⟨⟨j + 1, want, wok, by omega, by go_num, rfl, rfl, iB.out.skip (.inl E3.out), iW.out.alloc iW.out.size _⟩, by simp [intOf]; omega⟩
        | false =>
          by_cases hxl : x < ld
          · skip
            go_wp2
            exact ⟨⟨j + 1, want, wok, by omega, by go_num, rfl, rfl, iB.out.skip (.inr (by rw [E1.out]; exact hxl)), iW.out.alloc iW.out.size _⟩, by simp [intOf]; omega⟩
          · have hxl' : decide (x < ld) = false := by simp; omega
            by_cases hl0 : ld = 0
            · subst hl0
              have HV : Hid (rv clock (D j) = rmc - clock) := by show rv clock (D j) = _; unfold rv; rw [E1.out, E2.out]; simp
              cases wok with
              | false =>
                have HX := hide (iB.out.next E3.out (by rw [E1.out]; omega) HV.out)
                rw [accR_no] at HX
                go_wp2
                exact ⟨⟨j + 1, (rmc - clock), true, by omega, by go_num, rfl, rfl, HX, iW.out.alloc iW.out.size _⟩, by simp [intOf]; omega⟩
              | true =>
                have HX := hide (iB.out.next E3.out (by rw [E1.out]; omega) HV.out)
                by_cases hz : want < rmc - clock
                · rw [accR_gt hz] at HX
                  go_wp2
                  exact ⟨⟨j + 1, (rmc - clock), true, by omega, by go_num, rfl, rfl, HX, iW.out.alloc iW.out.size _⟩, by simp [intOf]; omega⟩
                · rw [accR_le (by omega)] at HX
                  have hz' : decide (want < rmc - clock) = false := by simp; omega
                  go_wp2
                  exact ⟨⟨j + 1, want, true, by omega, by go_num, rfl, rfl, HX, iW.out.alloc iW.out.size _⟩, by simp [intOf]; omega⟩
            · have hl0' : (ld == 0) = false := by simp [hl0]
              have HV : Hid (rv clock (D j) = rmc) := by show rv clock (D j) = _; unfold rv; rw [E1.out, E2.out, if_neg hl0]
              cases wok with
              | false =>
                have HX := hide (iB.out.next E3.out (by rw [E1.out]; omega) HV.out)
                rw [accR_no] at HX
                go_wp2
                exact ⟨⟨j + 1, (rmc), true, by omega, by go_num, rfl, rfl, HX, iW.out.alloc iW.out.size _⟩, by simp [intOf]; omega⟩
              | true =>
                have HX := hide (iB.out.next E3.out (by rw [E1.out]; omega) HV.out)
                by_cases hz : want < rmc
                · rw [accR_gt hz] at HX
                  go_wp2
                  exact ⟨⟨j + 1, (rmc), true, by omega, by go_num, rfl, rfl, HX, iW.out.alloc iW.out.size _⟩, by simp [intOf]; omega⟩
                · rw [accR_le (by omega)] at HX
                  have hz' : decide (want < rmc) = false := by simp; omega
                  go_wp2
                  exact ⟨⟨j + 1, want, true, by omega, by go_num, rfl, rfl, HX, iW.out.alloc iW.out.size _⟩, by simp [intOf]; omega⟩
      · have e : j = n := by omega
        subst e
        obtain ⟨rfl, rfl⟩ := HBEST.out.uniq (iB.out.congr (fun v => by
          constructor
          · rintro ⟨_, c, hc, h⟩
            exact ⟨c, (HM.out c).1 hc, h⟩
          · rintro ⟨c, hc, h⟩
            exact ⟨hxc, c, (HM.out c).2 hc, h⟩))
        have y0 : wr.cell? ⟨w4.heap.size, 0, none⟩ = some (.int .i64 clock) := (iW.out.cell (p := ⟨w4.heap.size, 0, none⟩) (by simp; omega)).trans k0
        have y2 : wr.cell? ⟨w4.heap.size + 1, 2, none⟩ = some (.slice (some ⟨w2.heap.size, 0, none⟩) (j + 1) (j + 1)) := (iW.out.cell (p := ⟨w4.heap.size + 1, 2, none⟩) (by simp; omega)).trans k2
        have y3 : wr.cell? ⟨w4.heap.size + 1, 3, none⟩ = some (.int .i32 r) := (iW.out.cell (p := ⟨w4.heap.size + 1, 3, none⟩) (by simp; omega)).trans k3
        go_wp2_with (go_at_call 11; refine (HEQ.out _ iW.out).mono ?_; rintro e w' ⟨rfl, q, rfl⟩)
        go_ret
        refine ⟨by simp, below_drewN (HBW5.out.trans (iW.out.mono HBW5.out.size)) _⟩
  · have hxc' : decide (clock ≤ x) = false := by simp; omega
    obtain ⟨rfl, rfl⟩ := HBEST.out.uniq (Best.none.congr (fun v => ⟨fun h => hxc h.1, False.elim⟩))
    go_wp2_with (go_at_call 11; refine (HEQ.out _ (Below.refl _ _)).mono ?_; rintro e w' ⟨rfl, q, rfl⟩)
    go_ret
    exact ⟨by simp, below_drewN HBW5.out _⟩
end Go.Proofs.Ybulkefry
