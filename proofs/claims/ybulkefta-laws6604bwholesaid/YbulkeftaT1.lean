import Derived.Test.YbulkeftaRows
import Derived.Test.YbulkeftaGen
import Derived.Laws.CopyOwn
import Derived.BigQuiet
import Derived.Deep.QuietTactic
namespace Go.Proofs.Ybulkefta
open Go.RowKit

theorem hide {p : Prop} (h : p) : Hid p := h

/-- the cells of so many numbers -/
def bcells (xs : List Int) : List Value := xs.map (fun n => Value.int .u8 n)
theorem length_bcells (xs : List Int) : (bcells xs).length = xs.length := by simp [bcells]
theorem bcells_append (xs ys : List Int) : bcells (xs ++ ys) = bcells xs ++ bcells ys := by simp [bcells]
theorem bcells_one (xs : List Int) : ∀ u ∈ bcells xs, u.oneCell' = true := by
  intro u hu
  simp [bcells] at hu
  obtain ⟨n, _, rfl⟩ := hu
  rfl
theorem bcells_at (xs : List Int) (i : Nat) (h : i < xs.length) : (bcells xs)[i]? = some (.int .u8 (xs.getD i 0)) := by
  simp [bcells, List.getD_eq_getElem?_getD, List.getElem?_eq_getElem h]

theorem info5 : (Yba.prog.info? 5).map (fun i => (i.zero, i.size, i.bytes)) = some (some (.int .u8 0), 1, 1) := by kernel_rfl

/-- v is a slice of bytes that reads as xs in the world w; where there is a byte, its block is in T. -/
def BytesAt (w : World) (T : Nat → Prop) (v : Value) (xs : List Int) : Prop :=
  (v = .slice none 0 0 ∧ xs = []) ∨ ∃ a c, v = .slice (some a) xs.length c ∧ (0 < xs.length → T a.block ∧ a.block < w.heap.size) ∧ ∀ j u, (bcells xs)[j]? = some u → w.cell? (a.add j) = some u

theorem add_block (a : Addr) (j : Nat) : (a.add j).block = a.block := by unfold Addr.add; split <;> rfl

section
variable {w : World} {T : Nat → Prop} {v : Value} {xs : List Int}
theorem BytesAt.src (h : BytesAt w T v xs) : Src Yba.prog 1 22 v xs.length (bcells xs) w := by
  rcases h with ⟨rfl, rfl⟩ | ⟨a, c, rfl, _, hc⟩
  · exact Src.ofNil w Yba.underlying22 0
  · exact Src.ofSlice w Yba.underlying22 a _ c (bcells xs) (by simp [bcells]) hc (bcells_one xs)
theorem BytesAt.keep {w' : World} (h : BytesAt w T v xs) (hk : ∀ k, T k → k < w.heap.size → w'.heap[k]? = w.heap[k]?) (hs : w.heap.size ≤ w'.heap.size) : BytesAt w' T v xs := by
  rcases h with h | ⟨a, c, rfl, ht, hc⟩
  · exact .inl h
  · refine .inr ⟨a, c, rfl, fun h0 => ⟨(ht h0).1, Nat.lt_of_lt_of_le (ht h0).2 hs⟩, fun j u hj => ?_⟩
    have h0 : 0 < xs.length := by
      have := (List.getElem?_eq_some_iff.1 hj).1
      rw [length_bcells] at this
      omega
    rw [World.cell?_of_block (w := w) (by rw [add_block]; exact hk _ (ht h0).1 (ht h0).2)]
    exact hc j u hj
theorem BytesAt.sub {T' : Nat → Prop} (h : BytesAt w T v xs) (hk : ∀ k, T k → k < w.heap.size → T' k) : BytesAt w T' v xs := by
  rcases h with h | ⟨a, c, rfl, ht, hc⟩
  · exact .inl h
  · exact .inr ⟨a, c, rfl, fun h0 => ⟨hk _ (ht h0).1 (ht h0).2, (ht h0).2⟩, hc⟩
theorem BytesAt.below {w' : World} (h : BytesAt w T v xs) (hb : Below w.heap.size w w') : BytesAt w' T v xs := h.keep (fun k _ hk => hb.block k hk) hb.size
theorem BytesAt.conv (h : BytesAt w T v xs) : (convert 22 9 v).run Yba.prog w = .ok (.string (strOfNums xs)) w := by
  rcases h with ⟨rfl, rfl⟩ | ⟨a, c, rfl, _, hc⟩
  · exact run_convert_bytes_nil (P := Yba.prog) w 22 5 Yba.underlying22 Yba.underlying5 0 0 9 Yba.underlying9
  · have hl : (loadCells a xs.length).run Yba.prog w = .ok (xs.map (Value.int .u8)).toArray w := by
      have := run_loadCells_list (P := Yba.prog) w a (bcells xs) hc
      rw [length_bcells] at this
      exact this
    rw [run_convert_bytes_string w 22 9 5 _ xs.length c Yba.underlying22 Yba.underlying5 Yba.underlying9, run_bytesToString w _ xs.length c xs hl, foldl_push_bytes]
    simp [strOfNums, ByteArray.empty, ByteArray.emptyWithCapacity]
    rfl
theorem BytesAt.shape (h : BytesAt w T v xs) : ∃ a c, v = .slice a xs.length c := by
  rcases h with ⟨rfl, rfl⟩ | ⟨a, c, rfl, _⟩
  · exact ⟨none, 0, rfl⟩
  · exact ⟨some a, c, rfl⟩
/-- a slice that the call owns reads as its cells -/
theorem BytesAt.ofOwns {B n : Nat} (h : w.ownsRow B 5 1 v n (bcells xs)) (hn : n = xs.length) (hT : ∀ k, B ≤ k → k < w.heap.size → T k) : BytesAt w T v xs := by
  subst hn
  rcases h.2 with ⟨rfl, h0⟩ | ⟨g, cap, cur, rfl, hbg, hg, hnc, hcm, hcs, htake⟩
  · exact .inl ⟨rfl, List.eq_nil_of_length_eq_zero h0⟩
  · have hlt := (Array.getElem?_eq_some_iff.1 hg).1
    refine .inr ⟨_, cap, rfl, fun _ => ⟨hT g hbg hlt, hlt⟩, fun j u hj => h.cells (g := g) rfl j u hj⟩
end

set_option maxHeartbeats 400000 in
theorem equal (v1 v2 : Value) (xs : List Int) (w : World) (T1 T2 : Nat → Prop) (h1 : BytesAt w T1 v1 xs) (h2 : BytesAt w T2 v2 xs) :
    Calls Yba.prog 10 #[v1, v2] w fun e w' => e = .returned (.bool true) ∧ w = w' := by
  have c1 := h1.conv
  have c2 := h2.conv
  clear h1 h2
  generalize strOfNums xs = S at *
  go_enter Yba.func10, Yba.ntmps10
  go_wp2
  go_ret
  exact ⟨by simp, rfl⟩

/-- what 'zzs6604bclone' hands back -/
structure CloneOf (w w' : World) (v' : Value) (xs : List Int) : Prop where
  at' : BytesAt w' (fun k => k = w.heap.size) v' xs
  full : ∃ a, v' = .slice a xs.length xs.length ∧ (a = none → xs = [])
  below : Below w.heap.size w w'
  small : w'.heap.size ≤ w.heap.size + 1

theorem mk_full (n : Nat) (hn : n ≤ 1048576) (w : World) : (Instr.makeSlice 22 (.int .i64 (n : Int)) (.int .i64 (n : Int))).run Yba.prog w =
    .ok (.slice (some ⟨w.heap.size, 0, none⟩) n n) (w.alloc (.cells (bcells (List.replicate n 0)).toArray 5)) := by
  obtain ⟨i, hi, hz, e2, e3⟩ := info_parts info5
  have := run_make (P := Yba.prog) w 22 5 i _ Yba.underlying22 hi hz .i64 .i64 n n (by omega) (by omega) (by rw [e3]; omega) (by omega)
  rw [e2] at this
  simp only [Int.toNat_natCast, Nat.mul_one] at this
  rw [this]
  congr 3
  apply Array.ext'
  apply List.ext_getElem?
  intro j
  simp only [madeCells, bcells, Value.cells]
  by_cases hj : j < n
  · simp [hj, Nat.mod_one]
  · simp [hj]

set_option maxHeartbeats 400000 in
theorem clone (v : Value) (xs : List Int) (T : Nat → Prop) (w : World) (h : BytesAt w T v xs) (hn : xs.length ≤ 1048576) :
    Calls Yba.prog 12 #[v] w fun e w' => ∃ v', e = .returned v' ∧ CloneOf w w' v' xs := by
  rcases h with ⟨rfl, rfl⟩ | ⟨a, c, rfl, ht, hc⟩
  · have h1 := fun w => Lib.run_eql_slice_nil (P := Yba.prog) w 22 5 none 0 0 0 0 Yba.underlying22
    go_enter Yba.func12, Yba.ntmps12
    go_wp2
    go_ret
    exact ⟨_, rfl, .inl ⟨rfl, rfl⟩, ⟨none, rfl, fun _ => rfl⟩, Below.refl _ _, by omega⟩
  · have h1 := fun w => Lib.run_eql_slice_nil (P := Yba.prog) w 22 5 (some a) xs.length c 0 0 Yba.underlying22
    have hmk := fun w => mk_full xs.length hn w
    have HC : Hid (∀ j u, (bcells xs)[j]? = some u → (w.alloc (.cells (bcells (List.replicate xs.length 0)).toArray 5)).cell? (a.add j) = some u) := fun j u hj => by
      have := hc j u hj
      rw [World.cell?_alloc_lt _ _ _ (World.block_lt_of_cell? _ _ this)]
      exact this
    have HG := hide (heap_alloc_new w (.cells (bcells (List.replicate xs.length 0)).toArray 5))
    clear hc ht
    go_enter Yba.func12, Yba.ntmps12
    go_wp2_with (refine wpList_copy_own rfl (.tmp 9) (.tmp 10) 22 22 rfl 5 Yba.underlying22 (by kernel_rfl) w.heap.size 0 xs.length xs.length a xs.length c rfl rfl _ 5 HG.out (bcells xs) (by rw [length_bcells]; exact (Nat.min_self _).symm) HC.out (by simp [bcells]) (bcells_one xs) ?_)
    go_ret
    have hrow : (bcells xs ++ List.drop (bcells xs).length (bcells (List.replicate xs.length 0))).toArray = (bcells xs).toArray := by
      rw [List.drop_eq_nil_of_le (by simp [bcells]), List.append_nil]
    rw [hrow]
    have hh : ((w.alloc (.cells (bcells (List.replicate xs.length 0)).toArray 5)).setRow w.heap.size (bcells xs).toArray).heap[w.heap.size]? = some (.cells (bcells xs).toArray 5 (0, 0)) := setRow_heap _ _ _ _ 5 _ HG.out
    refine ⟨_, rfl, ?_, ⟨some ⟨w.heap.size, 0, none⟩, rfl, fun h => by cases h⟩, below_setRow ((Below.refl _ _).alloc (Nat.le_refl _) _) (Nat.le_refl _) _, by simp [World.setRow]⟩
    refine .inr ⟨⟨w.heap.size, 0, none⟩, xs.length, rfl, fun _ => ⟨rfl, by simp [World.setRow]⟩, fun j u hj => ?_⟩
    rw [Addr.add_lit, Nat.zero_add, cell_of_row _ w.heap.size j _ 5 _ hh]
    simpa using hj
end Go.Proofs.Ybulkefta
