import Derived.Test.YbulkefsmC1
import Derived.Laws.CopyOwn
namespace Go.Proofs.Ybulkefsm
open Go.RowKit

theorem meta_method (a : Addr) (w : World) : (method 176 29 (.pointer (some a)) "\x4deta").run Yba.prog w = .ok (25, .pointer (some a)) w := by kernel_rfl

set_option maxHeartbeats 400000 in
theorem fld1 (ob : Nat) (nm : ByteArray) (w : World) (h : w.cell? ⟨ob, 2, none⟩ = some (.string nm)) :
    Calls Yba.prog 8 #[.iface 29 (.pointer (some ⟨ob, 0, none⟩))] w fun e w' => e = .returned (.string nm) ∧ w = w' := by
  have hm := fun w => meta_method ⟨ob, 0, none⟩ w
  go_enter Yba.func8, Yba.ntmps8
  go_wp2
  go_ret
  exact ⟨rfl, rfl⟩

set_option maxHeartbeats 400000 in
theorem fld2 (ob : Nat) (nm : ByteArray) (w : World) (h : w.cell? ⟨ob, 3, none⟩ = some (.string nm)) :
    Calls Yba.prog 9 #[.iface 29 (.pointer (some ⟨ob, 0, none⟩))] w fun e w' => e = .returned (.string nm) ∧ w = w' := by
  have hm := fun w => meta_method ⟨ob, 0, none⟩ w
  go_enter Yba.func9, Yba.ntmps9
  go_wp2
  go_ret
  exact ⟨rfl, rfl⟩

set_option maxHeartbeats 400000 in
theorem clos (b : Nat) (o : Value) (s : ByteArray) (w : World) (h : w.cell? ⟨b, 0, none⟩ = some (.string s)) :
    Calls Yba.prog 5 #[o, .pointer (some ⟨b, 0, none⟩)] w fun e w' => e = .returned (.string s) ∧ w = w' := by
  go_enter Yba.func5, Yba.ntmps5
  go_wp2
  go_ret
  exact ⟨rfl, rfl⟩

/-- block g holds at least n pairs: element j is (A j, B j); elements of type t, none frozen; c cells in all -/
def Pairs (w : World) (g : Nat) (t : TypeId) (c n : Nat) (A B : Nat → Value) : Prop := ∃ cur : Array Value, w.heap[g]? = some (.cells cur t (0, 0)) ∧ cur.size = c ∧ n * 2 ≤ c ∧ ∀ j, j < n → cur[j * 2]? = some (A j) ∧ cur[j * 2 + 1]? = some (B j)

theorem heap_setCell_at {w : World} {r i : Nat} {cs : Array Value} {t : TypeId} {fr : Nat × Nat} (h : w.heap[r]? = some (.cells cs t fr)) (v : Value) :
    (w.setCell ⟨r, i, none⟩ v).heap[r]? = some (.cells (cs.setIfInBounds i v) t fr) := by
  simp [World.setCell, Array.getElem?_modify, h]

section
variable {w : World} {g : Nat} {t : TypeId} {c n : Nat} {A B : Nat → Value}
theorem Pairs.lt (h : Pairs w g t c n A B) : g < w.heap.size := by
  obtain ⟨cur, h, _⟩ := h
  exact (Array.getElem?_eq_some_iff.1 h).1
theorem Pairs.cell (h : Pairs w g t c n A B) (j : Nat) (hj : j < n) : w.cell? ⟨g, j * 2, none⟩ = some (A j) ∧ w.cell? ⟨g, j * 2 + 1, none⟩ = some (B j) := by
  obtain ⟨cur, h, hs, hn, hc⟩ := h
  rw [cell_of_row w g _ cur t _ h, cell_of_row w g _ cur t _ h]
  exact hc j hj
theorem Pairs.frozen (h : Pairs w g t c n A B) (i : Nat) : w.frozen? ⟨g, i, none⟩ = false := by
  obtain ⟨cur, h, _⟩ := h
  simp [World.frozen?, h]
theorem Pairs.same {w' : World} (h : Pairs w g t c n A B) (e : w'.heap[g]? = w.heap[g]?) : Pairs w' g t c n A B := by
  obtain ⟨cur, h, r⟩ := h
  exact ⟨cur, e.trans h, r⟩
theorem Pairs.below {w' : World} {C : Nat} (h : Pairs w g t c n A B) (hb : Below C w w') (hg : g < C) : Pairs w' g t c n A B := h.same (hb.block g hg)
theorem Pairs.congr {A' B' : Nat → Value} (h : Pairs w g t c n A B) (e : ∀ j, j < n → A j = A' j ∧ B j = B' j) : Pairs w g t c n A' B' := by
  obtain ⟨cur, h, hs, hn, hc⟩ := h
  exact ⟨cur, h, hs, hn, fun j hj => by rw [← (e j hj).1, ← (e j hj).2]; exact hc j hj⟩
theorem Pairs.set (h : Pairs w g t c n A B) (k : Nat) (hk : k < n) (a b : Value) :
    Pairs ((w.setCell ⟨g, k * 2, none⟩ a).setCell ⟨g, k * 2 + 1, none⟩ b) g t c n (fun j => if j = k then a else A j) (fun j => if j = k then b else B j) := by
  obtain ⟨cur, h, hs, hn, hc⟩ := h
  refine ⟨_, heap_setCell_at (heap_setCell_at h _) _, by simpa using hs, hn, fun j hj => ?_⟩
  obtain ⟨c1, c2⟩ := hc j hj
  by_cases e : j = k
  · subst e
    simp only [Array.getElem?_setIfInBounds, Array.size_setIfInBounds]
    have h1 : j * 2 < cur.size := by omega
    have h2 : j * 2 + 1 < cur.size := by omega
    simp [h1, h2]
  · simp only [Array.getElem?_setIfInBounds, Array.size_setIfInBounds, if_neg e]
    rw [if_neg (by omega), if_neg (by omega), if_neg (by omega), if_neg (by omega)]
    exact ⟨c1, c2⟩
theorem madeCells_pair (a b : Value) (n j : Nat) (h : j < n) : (madeCells #[a, b] (n * 2))[j * 2]? = some a ∧ (madeCells #[a, b] (n * 2))[j * 2 + 1]? = some b := by
  simp only [madeCells, Array.getElem?_map]
  rw [Array.getElem?_eq_getElem (by simp; omega), Array.getElem?_eq_getElem (by simp; omega)]
  simp only [Array.getElem_range, Option.map_some]
  have e1 : j * 2 % 2 = 0 := by omega
  have e2 : (j * 2 + 1) % 2 = 1 := by omega
  simp [e1, e2]
theorem Pairs.made (w : World) (t : TypeId) (n : Nat) (a b : Value) : Pairs (w.alloc (.cells (madeCells #[a, b] (n * 2)) t)) w.heap.size t (n * 2) n (fun _ => a) (fun _ => b) :=
  ⟨_, heap_alloc_new w _, size_madeCells _ _, Nat.le_refl _, fun j hj => madeCells_pair a b n j hj⟩
end

theorem Yba.info28 : (Yba.prog.info? 28).map (fun i => (i.zero, i.size, i.bytes)) = some (some (.agg #[.string ⟨#[]⟩, .nilFunc]), 2, 24) := by kernel_rfl

/-- "metadata.name" -/
def nmS : ByteArray := ⟨#[109, 101, 116, 97, 100, 97, 116, 97, 46, 110, 97, 109, 101]⟩
/-- "metadata.namespace" -/
def nsS : ByteArray := ⟨#[109, 101, 116, 97, 100, 97, 116, 97, 46, 110, 97, 109, 101, 115, 112, 97, 99, 101]⟩

/-- the fields that come back -/
def gotA (A : Nat → Value) : Nat → Value | 0 => .string nmS | 1 => .string nsS | j + 2 => A j
def gotB (B : Nat → Value) : Nat → Value | 0 => .func (.func 8) #[] #[] | 1 => .func (.func 9) #[] #[] | j + 2 => B j

set_option maxHeartbeats 400000 in
theorem mfields (g n : Nat) (A B : Nat → Value) (w : World) (hn : n ≤ 1048576) (hp : Pairs w g 28 (n * 2) n A B) (h1 : ∀ j, j < n → (A j).oneCell' = true ∧ (B j).oneCell' = true) :
    Calls Yba.prog 6 #[.slice (some ⟨g, 0, none⟩) n n] w fun e w' => ∃ gb cap, e = .returned (.slice (some ⟨gb, 0, none⟩) (n + 2) cap) ∧ w.heap.size ≤ gb ∧ Pairs w' gb 28 (cap * 2) (n + 2) (gotA A) (gotB B) ∧ Below w.heap.size w w' := by
  obtain ⟨i0, hi, hz0, hz1, hz2⟩ := info_parts Yba.info28
  obtain ⟨src, s1, s2, _, s3⟩ := hp
  have hl4 : w.heap[g]? = (w.alloc (.cells #[.string nmS, .func (.func 8) #[] #[], .string nsS, .func (.func 9) #[] #[]] 28)).heap[g]? := (Go.heap_alloc_old w _ (Array.getElem?_eq_some_iff.1 s1).1).symm
  have hsrc : ∀ j u, src.toList[j]? = some u → (w.alloc (.cells #[.string nmS, .func (.func 8) #[] #[], .string nsS, .func (.func 9) #[] #[]] 28)).cell? ((⟨g, 0, none⟩ : Addr).add j) = some u := by
    intro j u hj
    rw [Addr.add_lit, Nat.zero_add, cell_of_row _ g j src 28 _ (hl4 ▸ s1)]
    simpa using hj
  have hone : ∀ u ∈ src.toList, u.oneCell' = true := by
    intro v hv
    obtain ⟨i, hi, rfl⟩ := List.getElem_of_mem hv
    simp at hi
    obtain ⟨e1, e2⟩ := s3 (i / 2) (by omega)
    have : i = i / 2 * 2 ∨ i = i / 2 * 2 + 1 := by omega
    rcases this with e | e
    · rw [← e, Array.getElem?_eq_getElem hi] at e1
      simp at e1
      simp [e1, (h1 (i / 2) (by omega)).1]
    · rw [← e, Array.getElem?_eq_getElem hi] at e2
      simp at e2
      simp [e2, (h1 (i / 2) (by omega)).2]
  have hown : (w.alloc (.cells #[.string nmS, .func (.func 8) #[] #[], .string nsS, .func (.func 9) #[] #[]] 28)).ownsRow w.heap.size 28 2 (.slice (some ⟨w.heap.size, 0, none⟩) 2 2) 2 [.string nmS, .func (.func 8) #[] #[], .string nsS, .func (.func 9) #[] #[]] :=
    ⟨rfl, .inr ⟨w.heap.size, 2, _, rfl, Nat.le_refl _, heap_alloc_new w _, Nat.le_refl _, by unfold maxLen; omega, rfl, rfl⟩⟩
  have hlen : src.toList.length = n * 2 := by simpa using s2
  have HS3 := hide s3
  clear s1 s2 s3 hl4 h1
  unfold nmS nsS at hown hsrc
  go_enter Yba.func6, Yba.ntmps6
  go_wp2_with (at_builtin; refine wpList_append_own _ rfl (.tmp 5) (.tmp 6) 23 rfl w.heap.size 28 i0 _ 2 24 Yba.underlying23 hi hz0 hz1 hz2 rfl (by decide) _ 2 _ rfl hown ⟨g, 0, none⟩ n n src.toList rfl hlen hsrc hone (by unfold maxLen; omega) (by omega) (by simp) ?_)
  intro v' w' hown' hgr hnil
  go_wp2
  go_ret
  obtain ⟨hL, hv⟩ := hown'
  rcases hv with ⟨_, h0⟩ | ⟨gb, cap, cur, rfl, hbg, hg, hnc, _, hcs, htake⟩
  · omega
  · refine ⟨gb, cap, by rw [Nat.add_comm n 2]; rfl, hbg, ⟨cur, hg, hcs, by omega, ?_⟩, ((Below.refl _ _).alloc (Nat.le_refl _) _).grown hgr (by simp) (by simp [Value.ownBlock])⟩
    have key : ∀ i, i < (n + 2) * 2 → cur[i]? = ([Value.string ⟨#[109, 101, 116, 97, 100, 97, 116, 97, 46, 110, 97, 109, 101]⟩, .func (.func 8) #[] #[], .string ⟨#[109, 101, 116, 97, 100, 97, 116, 97, 46, 110, 97, 109, 101, 115, 112, 97, 99, 101]⟩, .func (.func 9) #[] #[]] ++ src.toList)[i]? := by
      intro i hi
      have ht : List.take ((2 + n) * 2) cur.toList = [Value.string ⟨#[109, 101, 116, 97, 100, 97, 116, 97, 46, 110, 97, 109, 101]⟩, .func (.func 8) #[] #[], .string ⟨#[109, 101, 116, 97, 100, 97, 116, 97, 46, 110, 97, 109, 101, 115, 112, 97, 99, 101]⟩, .func (.func 9) #[] #[]] ++ src.toList := htake
      rw [← ht, List.getElem?_take, if_pos (by omega)]
      simp
    intro j hj
    rw [key (j * 2) (by omega), key (j * 2 + 1) (by omega)]
    match j, hj with
    | 0, _ => exact ⟨rfl, rfl⟩
    | 1, _ => exact ⟨rfl, rfl⟩
    | j + 2, hj =>
      obtain ⟨e1, e2⟩ := HS3.out j (by omega)
      rw [List.getElem?_append_right (by simp; omega), List.getElem?_append_right (by simp; omega)]
      simp only [List.length_cons, List.length_nil]
      rw [show (j + 2) * 2 - (0 + 1 + 1 + 1 + 1) = j * 2 by omega, show (j + 2) * 2 + 1 - (0 + 1 + 1 + 1 + 1) = j * 2 + 1 by omega]
      simp only [Array.getElem?_toList]
      exact ⟨e1, e2⟩
end Go.Proofs.Ybulkefsm
