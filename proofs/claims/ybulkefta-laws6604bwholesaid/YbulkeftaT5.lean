import Derived.Test.YbulkeftaT4
namespace Go.Proofs.Ybulkefta
open Go.RowKit

theorem meth_arr (nm : String) (h : Yba.prog.underlying 41 = some (.interface #[(nm, 46)])) (a : Addr) (k c : Nat) (w : World) : (method 184 54 (.slice (some a) k c) nm).run Yba.prog w = .ok (14, .slice (some a) k c) w := by
  have e := h.symm.trans Yba.underlying41
  simp only [Option.some.injEq, TypeDesc.interface.injEq, Array.mk.injEq, List.cons.injEq, Prod.mk.injEq, and_true] at e
  subst e
  show (method 184 54 (.slice (some a) k c) _).run Yba.prog w = .ok (14, .slice (some a) k c) w
  kernel_rfl

theorem csum_zero : ∀ k, csum (fun _ => 0) k = 0
  | 0 => rfl
  | k + 1 => by simp [csum, csum_zero k]

set_option maxHeartbeats 1000000 in
theorem elem2 (C sb k cap : Nat) (w0 : World) (tv : Nat → Value) (sf : Nat → List Int) (hk : k ≤ 1048576) (hsb : 0 < k → sb ≠ C)
    (hc : ∀ j, j < k → w0.cell? ⟨sb, j * 2, none⟩ = some (tv j) ∧ w0.cell? ⟨sb, j * 2 + 1, none⟩ = some .nilIface ∧ BytesAt w0 (fun k => k ≠ C) (tv j) (sf j)) :
    ElemOK C w0 (.slice none 0 0) (.iface 54 (.slice (some ⟨sb, 0, none⟩) k cap)) (arr sf k) 0 := by
  intro w v n xs cnt hst hown hn h0 h1
  have HN := hide (arrJSON C sb k cap w0 tv (fun _ => .nilIface) sf (fun _ => 0) hsb (fun j hj => ⟨(hc j hj).1, (hc j hj).2.1⟩) (fun j hj => by
      obtain ⟨a, c, e⟩ := (hc j hj).2.2.shape
      rw [e]; exact ⟨rfl, rfl⟩) (fun j hj => elem0 C w0 (tv j) (sf j) (hc j hj).2.2)
    (w.alloc (.cells #[.slice none 0 0, .iface 54 (.slice (some ⟨sb, 0, none⟩) k cap)] 43)) v n xs cnt (hst.alloc _) (.inl (hown.alloc _)) hn h0 (by rw [csum_zero]; simpa using h1) hk)
  have hm := fun w => meth_arr _ Yba.underlying41 ⟨sb, 0, none⟩ k cap w
  clear hst hown hc hsb
  go_enter Yba.func16, Yba.ntmps16
  go_wp2_with (go_at_call 14; refine HN.out.mono ?_)
  rintro e w' ⟨v', rfl, ho, hs⟩
  rw [csum_zero] at hs
  have HO := hide ho
  have HS := hide hs
  clear ho hs
  go_wp2
  go_ret
  exact ⟨_, rfl, HO.out, HS.out⟩

/-- an element of the array, as it lies in memory: its two cells, what it yields, how often it counts; C: the counter; T: the blocks that hold it -/
def ElemAt (w : World) (C : Nat) (T : Nat → Prop) (A N : Value) (bs : List Int) (c : Nat) : Prop :=
  (N = .nilIface ∧ c = 0 ∧ BytesAt w T A bs) ∨
  (∃ nb tv, A = .slice none 0 0 ∧ N = .iface 56 (.pointer (some ⟨nb, 0, none⟩)) ∧ c = 1 ∧ T nb ∧ w.heap[nb]? = some (.cells #[tv, .pointer (some ⟨C, 0, none⟩)] 59 (0, 0)) ∧ BytesAt w T tv bs) ∨
  (∃ (sb k cap : Nat) (tv : Nat → Value) (sf : Nat → List Int), A = .slice none 0 0 ∧ N = .iface 54 (.slice (some ⟨sb, 0, none⟩) k cap) ∧ c = 0 ∧ k ≤ 1048576 ∧ T sb ∧
    (∀ j, j < k → w.cell? ⟨sb, j * 2, none⟩ = some (tv j) ∧ w.cell? ⟨sb, j * 2 + 1, none⟩ = some .nilIface ∧ BytesAt w T (tv j) (sf j)) ∧ bs = arr sf k)

theorem ElemAt.keep {w w' : World} {C : Nat} {T : Nat → Prop} {A N : Value} {bs : List Int} {c : Nat} (h : ElemAt w C T A N bs c) (hk : ∀ k, T k → k < w.heap.size → w'.heap[k]? = w.heap[k]?) (hs : w.heap.size ≤ w'.heap.size) : ElemAt w' C T A N bs c := by
  rcases h with ⟨h1, h2, h3⟩ | ⟨nb, tv, h1, h2, h3, h4, h5, h6⟩ | ⟨sb, k, cap, tv, sf, h1, h2, h3, h4, h5, h6, h7⟩
  · exact .inl ⟨h1, h2, h3.keep hk hs⟩
  · exact .inr (.inl ⟨nb, tv, h1, h2, h3, h4, (hk nb h4 (Array.getElem?_eq_some_iff.1 h5).1).trans h5, h6.keep hk hs⟩)
  · refine .inr (.inr ⟨sb, k, cap, tv, sf, h1, h2, h3, h4, h5, fun j hj => ?_, h7⟩)
    obtain ⟨g1, g2, g3⟩ := h6 j hj
    have hl := World.block_lt_of_cell? _ _ g1
    have e := hk sb h5 hl
    exact ⟨(World.cell?_of_block (w := w) e).trans g1, (World.cell?_of_block (w := w) e).trans g2, g3.keep hk hs⟩

theorem ElemAt.ok {w0 : World} {C : Nat} {T : Nat → Prop} {A N : Value} {bs : List Int} {c : Nat} (h : ElemAt w0 C T A N bs c) (hT : ∀ k, T k → k ≠ C) : ElemOK C w0 A N bs c := by
  rcases h with ⟨rfl, rfl, h3⟩ | ⟨nb, tv, rfl, rfl, rfl, h4, h5, h6⟩ | ⟨sb, k, cap, tv, sf, rfl, rfl, rfl, h4, h5, h6, rfl⟩
  · exact elem0 C w0 A bs (h3.sub fun k hk _ => hT k hk)
  · exact elem1 C nb w0 tv bs (hT nb h4) h5 (h6.sub fun k hk _ => hT k hk)
  · exact elem2 C sb k cap w0 tv sf h4 (fun _ => hT sb h5) (fun j hj => ⟨(h6 j hj).1, (h6 j hj).2.1, (h6 j hj).2.2.sub fun k hk _ => hT k hk⟩)

theorem ElemAt.one {w0 : World} {C : Nat} {T : Nat → Prop} {A N : Value} {bs : List Int} {c : Nat} (h : ElemAt w0 C T A N bs c) : A.oneCell' = true ∧ N.oneCell' = true := by
  rcases h with ⟨rfl, rfl, h3⟩ | ⟨nb, tv, rfl, rfl, _⟩ | ⟨sb, k, cap, tv, sf, rfl, rfl, _⟩
  · obtain ⟨a, c, e⟩ := h3.shape
    rw [e]; exact ⟨rfl, rfl⟩
  · exact ⟨rfl, rfl⟩
  · exact ⟨rfl, rfl⟩
end Go.Proofs.Ybulkefta
