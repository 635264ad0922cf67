import Derived.Test.YbulkefucU1
import Derived.Test.YbulkefucGen
import Derived.Laws.BytesArg
namespace Go.Proofs.Ybulkefuc
open Go.RowKit

/-- the cells of so many numbers -/
def bcells (xs : List Int) : List Value := xs.map (fun n => Value.int .u8 n)
theorem length_bcells (xs : List Int) : (bcells xs).length = xs.length := by simp [bcells]
theorem bcells_at (xs : List Int) (i : Nat) (h : i < xs.length) : (bcells xs)[i]? = some (.int .u8 (xs.getD i 0)) := by
  simp [bcells, List.getD_eq_getElem?_getD, List.getElem?_eq_getElem h]
theorem bcells_set (xs : List Int) (i : Nat) (y : Int) : (bcells xs).toArray.setIfInBounds i (.int .u8 y) = (bcells (xs.set i y)).toArray := by
  simp [bcells, List.map_set]
theorem heap_setCell_at {w : World} {r i : Nat} {cs : Array Value} {t : TypeId} {fr : Nat × Nat} (h : w.heap[r]? = some (.cells cs t fr)) (v : Value) :
    (w.setCell ⟨r, i, none⟩ v).heap[r]? = some (.cells (cs.setIfInBounds i v) t fr) := by
  simp [World.setCell, Array.getElem?_modify, h]

theorem info5 : (Yba.prog.info? 5).map (fun i => (i.zero, i.size, i.bytes)) = some (some (.int .u8 0), 1, 1) := by kernel_rfl

/-- a row of bytes, converted -/
theorem conv_row (w : World) (g n cap : Nat) (xs ys : List Int) (t : TypeId) (fr : Nat × Nat) (hx : xs.length = n) (hg : w.heap[g]? = some (.cells (bcells (xs ++ ys)).toArray t fr)) :
    (convert 23 9 (.slice (some ⟨g, 0, none⟩) n cap)).run Yba.prog w = .ok (.string (strOfNums xs)) w := by
  refine run_convert_bytes_arg (P := Yba.prog) w 23 5 Yba.underlying23 Yba.underlying5 g 0 n cap xs hx ?_ 9 Yba.underlying9
  intro i hi
  rw [Nat.zero_add, cell_of_row w g i _ t _ hg]
  simp only [List.getElem?_toArray]
  rw [bcells_at _ _ (by simp; omega)]
  simp [List.getElem?_append_left (show i < xs.length by omega)]

theorem mk_full (n : Nat) (hn : n ≤ 1024) (w : World) : (Instr.makeSlice 23 (.int .i64 (n : Int)) (.int .i64 (n : Int))).run Yba.prog w =
    .ok (.slice (some ⟨w.heap.size, 0, none⟩) n n) (w.alloc (.cells (bcells (List.replicate n 0)).toArray 5)) := by
  obtain ⟨i, hi, hz, e2, e3⟩ := info_parts info5
  have := run_make (P := Yba.prog) w 23 5 i _ Yba.underlying23 hi hz .i64 .i64 n n (by omega) (by omega) (by rw [e3]; omega) (by omega)
  rw [e2] at this
  simp only [Int.toNat_natCast, Nat.mul_one] at this
  rw [this]
  congr 3
  apply Array.ext'
  apply List.ext_getElem?
  intro j
  simp only [madeCells, bcells, Value.cells]
  by_cases hj : j < n
  · simp [hj, Nat.mod_one]
  · simp [hj]

def tabS : ByteArray := ⟨#[97, 90, 48, 57, 45, 46, 98, 95, 32, 47, 255, 58]⟩

set_option maxHeartbeats 1000000 in
theorem pick (a : Option Addr) (n cap : Nat) (z : Nat → Int) (w : World) (hn : n ≤ 1024)
    (hc : 0 < n → ∃ b off, a = some ⟨b, off, none⟩ ∧ b < w.heap.size ∧ ∀ i, i < n → w.cell? ⟨b, off + i, none⟩ = some (.int .u8 (z i)) ∧ 0 ≤ z i ∧ z i ≤ 255) :
    Calls Yba.prog 7 #[.slice a n cap] w fun e w' => ∃ u : ByteArray, e = .returned (.string u) ∧ u.size = n ∧ Below w.heap.size w w' := by
  have hmk := fun w => mk_full n hn w
  go_enter Yba.func7, Yba.ntmps7
  go_wp2
  go_loopw [4] (fun i wr => ∃ k : Nat, k ≤ n ∧ i = .int .i64 k ∧ Below w.heap.size w wr ∧ ∃ xs : List Int, xs.length = n ∧ wr.heap[w.heap.size]? = some (.cells (bcells xs).toArray 5 (0, 0))) (fun i _ => n - (intOf i).toNat)
  case atStart => exact ⟨0, Nat.zero_le _, rfl, (Below.refl _ _).alloc (Nat.le_refl _) _, List.replicate n 0, by simp, heap_alloc_new w _⟩
  case round =>
    obtain ⟨k, hk, rfl, hb, xs, hx, hg⟩ := hrel
    by_cases hlt : k < n
    · obtain ⟨b, off, rfl, hbl, hcs⟩ := hc (by omega)
      obtain ⟨ck, z0, z1⟩ := hcs k hlt
      rw [← hb.cell (p := ⟨b, off + k, none⟩) hbl] at ck
      have ock : wr.cell? ⟨w.heap.size, k, none⟩ = some (.int .u8 (xs.getD k 0)) := by
        rw [cell_of_row wr _ k _ 5 _ hg]; simp only [List.getElem?_toArray]; exact bcells_at xs k (by omega)
      have fck : wr.frozen? ⟨w.heap.size, k, none⟩ = false := by simp [World.frozen?, hg]
      have HG := hide hg
      clear hcs hc hg hmk
      generalize z k = zk at *
      have y0 : 0 ≤ zk % 12 := by omega
      have y1 : zk % 12 < 12 := by omega
      go_wp2
      refine ⟨⟨k + 1, by omega, by go_num, hb.setCell (Nat.le_refl _) _, ?_⟩, by simp [intOf]; omega⟩
      refine ⟨_, ?_, (by rw [heap_setCell_at HG.out, bcells_set])⟩
      simpa using hx
    · have hcv := conv_row wr w.heap.size n n xs [] 5 (0, 0) hx (by simpa using hg)
      have HG := hide hg
      have hsz : (strOfNums xs).size = n := by rw [← hx]; simp [strOfNums, ByteArray.size]
      have HX := hide hsz
      clear hg hmk hc hsz
      go_wp2
      go_ret
      exact ⟨_, rfl, HX.out, hb⟩

/-- the cells that a string yields to an append -/
theorem byteCells_eq (u : ByteArray) : byteCells u = bcells (u.data.toList.map fun b => (b.toNat : Int)) := by simp [byteCells, bcells]

set_option maxHeartbeats 1000000 in
theorem mapped (a : Option Addr) (n cap : Nat) (z : Nat → Int) (rep : Int) (w : World) (hm : n ≤ maxLen) (r0 : 0 ≤ rep) (r1 : rep ≤ 65535)
    (hc : 0 < n → ∃ b off, a = some ⟨b, off, none⟩ ∧ b < w.heap.size ∧ ∀ i, i < n → w.cell? ⟨b, off + i, none⟩ = some (.int .u8 (z i)) ∧ 0 ≤ z i ∧ z i ≤ 255) :
    Calls Yba.prog 4 #[.slice a n cap, .int .u16 rep] w fun e w' => e = .returned (.bool true) ∧ Below w.heap.size w w' := by
  unfold maxLen at hm
  obtain ⟨i0, hi, hz0, hz1, hz2⟩ := info_parts info5
  by_cases hbig : 1024 < n
  · go_enter Yba.func4, Yba.ntmps4
    go_wp2
    go_ret
    exact ⟨rfl, Below.refl _ _⟩
  have hn : n ≤ 1024 := by omega
  have hd : decide ((1024 : Int) < n) = false := by simp; omega
  have HP := hide (pick a n cap z w hn hc)
  clear hc
  go_enter Yba.func4, Yba.ntmps4
  go_wp2_with fail
  refine HP.out.mono ?_
  rintro e w1 ⟨u, rfl, hu, hb1⟩
  have hu' : u.size ≤ 1024 := by omega
  have hk1 : 0 ≤ rep % 300 := by omega
  have hk2 : rep % 300 < 300 := by omega
  obtain ⟨K, hK⟩ : ∃ K : Nat, rep % 300 + 1 = (K : Int) := ⟨(rep % 300 + 1).toNat, by omega⟩
  have hK1 : K ≤ 300 := by omega
  have hnK : u.size * K ≤ 307200 := Nat.mul_le_mul hu' hK1
  have hp : (u.size : Int) * (K : Int) = ((u.size * K : Nat) : Int) := by simp
  have hmono : ∀ j, j ≤ K → u.size * j ≤ u.size * K := fun j hj => Nat.mul_le_mul_left _ hj
  have HM := hide hmono
  clear hmono
  generalize u.size * K = M at *
  have hM0 : (0 : Int) ≤ (M : Int) + 1 := by omega
  have hmk := fun w => run_make (P := Yba.prog) w 23 5 i0 _ Yba.underlying23 hi hz0 .i64 .i64 0 ((M : Int) + 1) (by omega) (by omega) (by rw [hz2]; omega) (by omega)
  simp only [hz1, Nat.mul_one, show ((M : Int) + 1).toNat = M + 1 by omega, Int.toNat_zero] at hmk
  have hown : ∀ w : World, (w.alloc (.cells (madeCells (Value.int .u8 0).cells (M + 1)) 5)).ownsRow w.heap.size 5 1 (.slice (some ⟨w.heap.size, 0, none⟩) 0 (M + 1)) 0 [] := fun w =>
    World.ownsRow_made w _ (M + 1) (Nat.le_refl _) (by unfold maxLen; omega) (by rw [size_madeCells, Nat.mul_one])
  have HO := hide hown
  have HU := hide hu
  clear hown hu HP hk1 hk2
  go_wp2
  go_loopw [7, 8] (fun v i wr => ∃ (j : Nat) (xs : List Int), j ≤ K ∧ i = .int .i64 j ∧ xs.length = u.size * j ∧ wr.ownsRow w1.heap.size 5 1 v (u.size * j) (bcells xs) ∧ v ≠ .slice none 0 0 ∧ Below w1.heap.size w1 wr) (fun _ i _ => K - (intOf i).toNat)
  case atStart => exact ⟨0, [], Nat.zero_le _, rfl, by simp, HO.out w1, by simp, (Below.refl _ _).alloc (Nat.le_refl _) _⟩
  case round =>
    obtain ⟨j, xs, hj, rfl, hxl, hown, hnn, hb⟩ := hrel
    have hjM := HM.out j hj
    by_cases hlt : j < K
    · have hjM1 := HM.out (j + 1) (by omega)
      have hbz := hb.size
      have HOW := hide hown
      have HXL := hide hxl
      have HNN := hide hnn
      clear hown hxl hnn hmk HO
      rw [Nat.mul_succ] at hjM1
      go_wp2_with (at_builtin; refine wpList_append_own_src _ rfl (.tmp 30) (.tmp 31) 23 9 rfl w1.heap.size 5 i0 (.int .u8 0) 1 1 Yba.underlying23 hi hz0 hz1 hz2 rfl _ (u.size * j) (bcells xs) rfl HOW.out _ u.size (byteCells u) rfl (Src.ofString _ Yba.underlying9 u) (by unfold maxLen; omega) (by omega) hbz ?_)
      intro v' w' hown' hgr hnil hat
      have HN2 : Hid (v' ≠ .slice none 0 0) := fun h => HNN.out (hnil.1 h).1
      have HOW' := hide hown'
      have HGR := hide hgr
      clear hown' hgr hnil hat
      go_wp2
      refine ⟨⟨j + 1, xs ++ u.data.toList.map (fun b => (b.toNat : Int)), by omega, by go_num, ?_, ?_, HN2.out, ?_⟩, by simp [intOf]; omega⟩
      · rw [List.length_append, HXL.out, Nat.mul_succ, List.length_map]; exact congrArg _ Array.length_toList
      · have := HOW'.out
        rw [byteCells_eq] at this
        rw [Nat.mul_succ]
        simpa [bcells] using this
      · refine hb.grown HGR.out hbz fun k hk => ?_
        exact (HOW.out.lt k hk).1
    · rcases hown.2 with ⟨h0, _⟩ | ⟨g, cap', cur, rfl, hbg, hg, _, _, _, htake⟩
      · exact absurd h0 hnn
      have hcv := run_convert_bytes_arg (P := Yba.prog) wr 23 5 Yba.underlying23 Yba.underlying5 g 0 (u.size * j) cap' xs hxl (fun i hi' => by
        have := hown.cells (g := g) rfl i (.int .u8 (xs.getD i 0)) (bcells_at xs i (by omega))
        rw [Addr.add_lit] at this
        exact this) 9 Yba.underlying9
      have hsz : (strOfNums xs).size ≤ maxLen := by
        have : (strOfNums xs).size = xs.length := by unfold strOfNums; exact (by simp : (xs.map fun n => UInt8.ofNat n.toNat).toArray.size = xs.length)
        unfold maxLen; omega
      have HB := hide hb
      have HZ := hide hsz
      clear hown hnn hb hg htake hsz hmk HO hxl
      generalize strOfNums xs = S at *
      go_wp2_with fail
      refine (host S _ HZ.out).mono ?_
      rintro e w5 ⟨rfl, hb5⟩
      have HB5 := hide hb5
      clear hb5
      go_wp2_with fail
      refine (model S _ HZ.out).mono ?_
      rintro e w6 ⟨rfl, rfl⟩
      generalize modB S = m at *
      go_wp2
      go_ret
      refine ⟨by cases m <;> rfl, ?_⟩
      have hz1 := hb1.size
      have hz2 := HB.out.size
      exact hb1.trans ((HB.out.mono hz1).trans (HB5.out.mono (by omega)))
end Go.Proofs.Ybulkefuc
