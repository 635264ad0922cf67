import Derived.WalkKit
namespace Go.Proofs.Ybulkefry

/-- what a node says of the classes M of its subtree -/
structure Fig (M : Int × Int × Bool → Prop) (fst mr mi : Int) : Prop where
  f0 : fst ≤ 9223372036854775807
  f1 : fst = 9223372036854775807 ↔ ∀ c, M c → c.2.2 = true
  r0 : -4611686018427387904 ≤ mr
  r1 : mr = -4611686018427387904 ∨ ∃ c, M c ∧ c.2.2 = false ∧ c.1 ≠ 0 ∧ c.2.1 = mr
  r2 : ∀ c, M c → c.2.2 = false → c.1 ≠ 0 → c.2.1 ≤ mr
  i0 : -4611686018427387904 ≤ mi
  i1 : mi = -4611686018427387904 ∨ ∃ c, M c ∧ c.2.2 = false ∧ c.1 = 0 ∧ c.2.1 = mi
  i2 : ∀ c, M c → c.2.2 = false → c.1 = 0 → c.2.1 ≤ mi

/-- one more room is weighed -/
def accR (rm : Int) (ok : Bool) (v : Int) : Int := if ok = false ∨ rm < v then v else rm

theorem Fig.join {M M' : Int × Int × Bool → Prop} {a b c a' b' c' : Int} (h : Fig M a b c) (k : Fig M' a' b' c') :
    Fig (fun x => M x ∨ M' x) (if a' < a then a' else a) (if b < b' then b' else b) (if c < c' then c' else c) where
  f0 := by have := h.f0; have := k.f0; split <;> omega
  f1 := by
    have h0 := h.f0
    have k0 := k.f0
    constructor
    · intro e x hx
      have e1 : a = 9223372036854775807 := by split at e <;> omega
      have e2 : a' = 9223372036854775807 := by split at e <;> omega
      rcases hx with hx | hx
      · exact h.f1.1 e1 x hx
      · exact k.f1.1 e2 x hx
    · intro e
      have e1 := h.f1.2 (fun x hx => e x (.inl hx))
      have e2 := k.f1.2 (fun x hx => e x (.inr hx))
      split <;> omega
  r0 := by have := h.r0; have := k.r0; split <;> omega
  r1 := by
    split
    · rcases k.r1 with e | ⟨x, h1, h2⟩
      · exact .inl e
      · exact .inr ⟨x, .inr h1, h2⟩
    · rcases h.r1 with e | ⟨x, h1, h2⟩
      · exact .inl e
      · exact .inr ⟨x, .inl h1, h2⟩
  r2 x hx h1 h2 := by
    rcases hx with hx | hx
    · have := h.r2 x hx h1 h2
      split <;> omega
    · have := k.r2 x hx h1 h2
      split <;> omega
  i0 := by have := h.i0; have := k.i0; split <;> omega
  i1 := by
    split
    · rcases k.i1 with e | ⟨x, h1, h2⟩
      · exact .inl e
      · exact .inr ⟨x, .inr h1, h2⟩
    · rcases h.i1 with e | ⟨x, h1, h2⟩
      · exact .inl e
      · exact .inr ⟨x, .inl h1, h2⟩
  i2 x hx h1 h2 := by
    rcases hx with hx | hx
    · have := h.i2 x hx h1 h2
      split <;> omega
    · have := k.i2 x hx h1 h2
      split <;> omega

theorem Fig.congr {M M' : Int × Int × Bool → Prop} {a b c : Int} (h : Fig M a b c) (e : ∀ x, M' x ↔ M x) : Fig M' a b c := by
  have : M' = M := funext fun x => propext (e x)
  rw [this]; exact h

/-- one class alone -/
theorem Fig.one (x : Int × Int × Bool) (own : Int) (h0 : own ≤ 9223372036854775807) (h : own = 9223372036854775807 ↔ x.2.2 = true) (hb : -4611686018427387904 ≤ x.2.1) :
    Fig (fun y => y = x) own (if x.2.2 = false ∧ x.1 ≠ 0 then x.2.1 else -4611686018427387904) (if x.2.2 = false ∧ x.1 = 0 then x.2.1 else -4611686018427387904) where
  f0 := h0
  f1 := by rw [h]; exact ⟨fun e y hy => by rw [hy]; exact e, fun e => e x rfl⟩
  r0 := by split <;> omega
  r1 := by
    split
    · rename_i hc
      exact .inr ⟨x, rfl, hc.1, hc.2, rfl⟩
    · exact .inl rfl
  r2 y hy h1 h2 := by
    subst hy
    rw [if_pos ⟨h1, h2⟩]
    exact Int.le_refl _
  i0 := by split <;> omega
  i1 := by
    split
    · rename_i hc
      exact .inr ⟨x, rfl, hc.1, hc.2, rfl⟩
    · exact .inl rfl
  i2 y hy h1 h2 := by
    subst hy
    rw [if_pos ⟨h1, h2⟩]
    exact Int.le_refl _

/-- nodes a .. b - 1 hold a search tree with root r over the classes d; a child comes later than its parent -/
def Tr (nd : Nat → Nat → Int) (b : Nat) : Nat → Nat → Int → List (Int × Int × Bool) → Prop
  | 0, _, r, d => r = 0 ∧ d = []
  | f + 1, a, r, d => (r = 0 ∧ d = []) ∨ ∃ (j : Nat) (l : List (Int × Int × Bool)) (c : Int × Int × Bool) (t : List (Int × Int × Bool)), r = (j : Int) ∧ 0 < j ∧ a ≤ j ∧ j < b ∧ d = l ++ c :: t ∧
      nd j 0 = c.1 ∧ nd j 1 = c.2.1 ∧ (nd j 2 = 9223372036854775807 ↔ c.2.2 = true) ∧ Fig (fun x => x ∈ d) (nd j 3) (nd j 5) (nd j 6) ∧ Tr nd b f (j + 1) (nd j 8) l ∧ Tr nd b f (j + 1) (nd j 9) t

theorem Tr.congr {nd nd' : Nat → Nat → Int} {b b' : Nat} (hb : b ≤ b') : ∀ (f a a' : Nat) (r : Int) (d : List (Int × Int × Bool)), a' ≤ a → (∀ j, a ≤ j → j < b → ∀ t, nd' j t = nd j t) → Tr nd b f a r d → Tr nd' b' f a' r d
  | 0, _, _, _, _, _, _, h => h
  | f + 1, a, a', r, d, ha, e, h => by
    rcases h with h | ⟨j, l, c, t, h1, h2, h3, h4, h5, h6, h7, h8, h9, h10, h11⟩
    · exact .inl h
    · refine .inr ⟨j, l, c, t, h1, h2, by omega, by omega, h5, ?_⟩
      rw [e j h3 h4, e j h3 h4, e j h3 h4, e j h3 h4, e j h3 h4, e j h3 h4, e j h3 h4, e j h3 h4]
      exact ⟨h6, h7, h8, h9, Tr.congr hb f _ _ _ _ (Nat.le_refl _) (fun k hk => e k (by omega)) h10, Tr.congr hb f _ _ _ _ (Nat.le_refl _) (fun k hk => e k (by omega)) h11⟩
theorem Tr.fuel {nd : Nat → Nat → Int} {b : Nat} : ∀ (f a : Nat) (r : Int) (d : List (Int × Int × Bool)), Tr nd b f a r d → Tr nd b (f + 1) a r d
  | 0, _, _, _, h => .inl h
  | f + 1, a, r, d, h => by
    rcases h with h | ⟨j, l, c, t, h1, h2, h3, h4, h5, h6, h7, h8, h9, h10, h11⟩
    · exact .inl h
    · exact .inr ⟨j, l, c, t, h1, h2, h3, h4, h5, h6, h7, h8, h9, Tr.fuel f _ _ _ h10, Tr.fuel f _ _ _ h11⟩
theorem Tr.le {nd : Nat → Nat → Int} {a b : Nat} {f g : Nat} (hfg : f ≤ g) {r : Int} {d : List (Int × Int × Bool)} (h : Tr nd b f a r d) : Tr nd b g a r d := by
  induction hfg with
  | refl => exact h
  | step _ ih => exact Tr.fuel _ _ _ _ ih
theorem Tr.zero {nd : Nat → Nat → Int} {a b f : Nat} {d : List (Int × Int × Bool)} (h : Tr nd b f a 0 d) : d = [] := by
  cases f with
  | zero => exact h.2
  | succ f =>
    rcases h with h | ⟨j, l, c, t, h1, h2, _⟩
    · exact h.2
    · omega
theorem Tr.node {nd : Nat → Nat → Int} {a b f : Nat} {r : Int} {d : List (Int × Int × Bool)} (h : Tr nd b f a r d) (h0 : r ≠ 0) : ∃ (f' j : Nat) (l : List (Int × Int × Bool)) (c : Int × Int × Bool) (t : List (Int × Int × Bool)), r = (j : Int) ∧ 0 < j ∧ a ≤ j ∧ j < b ∧ d = l ++ c :: t ∧
      nd j 0 = c.1 ∧ nd j 1 = c.2.1 ∧ (nd j 2 = 9223372036854775807 ↔ c.2.2 = true) ∧ Fig (fun x => x ∈ d) (nd j 3) (nd j 5) (nd j 6) ∧ Tr nd b f' (j + 1) (nd j 8) l ∧ Tr nd b f' (j + 1) (nd j 9) t := by
  cases f with
  | zero => exact absurd h.1 h0
  | succ f =>
    rcases h with h | ⟨j, l, c, t, h⟩
    · exact absurd h.1 h0
    · exact ⟨f, j, l, c, t, h⟩

/-- the room now of a class -/
def rv (clk : Int) (c : Int × Int × Bool) : Int := if c.1 = 0 then c.2.1 - clk else c.2.1
/-- r is the room of a class among M that is not vacant and loaded at most x -/
def El (x clk : Int) (M : Int × Int × Bool → Prop) (r : Int) : Prop := ∃ c, M c ∧ c.2.2 = false ∧ c.1 ≤ x ∧ rv clk c = r
/-- (rm, ok) is the greatest of E -/
def Best (E : Int → Prop) (rm : Int) (ok : Bool) : Prop := (ok = true ∧ E rm ∧ ∀ r, E r → r ≤ rm) ∨ (ok = false ∧ rm = 0 ∧ ∀ r, ¬ E r)

theorem Best.uniq {E : Int → Prop} {a b : Int} {p q : Bool} (h : Best E a p) (k : Best E b q) : a = b ∧ p = q := by
  rcases h with ⟨rfl, h1, h2⟩ | ⟨rfl, rfl, h2⟩ <;> rcases k with ⟨rfl, k1, k2⟩ | ⟨rfl, rfl, k2⟩
  · have := h2 _ k1
    have := k2 _ h1
    exact ⟨by omega, rfl⟩
  · exact absurd h1 (k2 _)
  · exact absurd k1 (h2 _)
  · exact ⟨rfl, rfl⟩
theorem Best.none : Best (fun _ => False) 0 false := .inr ⟨rfl, rfl, fun _ h => h⟩
theorem Best.congr {E E' : Int → Prop} {a : Int} {p : Bool} (h : Best E a p) (e : ∀ r, E' r ↔ E r) : Best E' a p := by
  have : E' = E := funext fun x => propext (e x)
  rw [this]; exact h
/-- a set whose greatest is v joins -/
theorem Best.take {E F : Int → Prop} {rm v : Int} {ok : Bool} (h : Best E rm ok) (hv : F v) (hm : ∀ r, F r → r ≤ v) : Best (fun r => E r ∨ F r) (accR rm ok v) true := by
  refine .inl ⟨rfl, ?_, fun r hr => ?_⟩
  · unfold accR
    split
    · exact .inr hv
    · rename_i hn
      rcases h with ⟨rfl, h1, _⟩ | ⟨rfl, _, _⟩
      · exact .inl h1
      · exact absurd (.inl rfl) hn
  · unfold accR
    rcases h with ⟨rfl, h1, h2⟩ | ⟨rfl, _, h2⟩
    · simp
      rcases hr with hr | hr
      · have := h2 r hr
        split <;> omega
      · have := hm r hr
        split <;> omega
    · simp
      rcases hr with hr | hr
      · exact absurd hr (h2 r)
      · exact hm r hr

/-- a class that is not vacant and within x is weighed -/
theorem El.one {x clk : Int} {c : Int × Int × Bool} (h1 : c.2.2 = false) (h2 : c.1 ≤ x) : El x clk (fun y => y = c) (rv clk c) ∧ ∀ r, El x clk (fun y => y = c) r → r ≤ rv clk c :=
  ⟨⟨c, rfl, h1, h2, rfl⟩, fun r ⟨y, hy, _, _, hr⟩ => by subst hy; rw [hr]; exact Int.le_refl _⟩
/-- a whole subtree within x, not all vacant: its figures tell the greatest room -/
theorem Fig.most {M : Int × Int × Bool → Prop} {fst mr mi x clk : Int} (h : Fig M fst mr mi) (hx : ∀ c, M c → c.1 ≤ x) (hb : ∀ c, M c → -2147483648 ≤ c.2.1 ∧ c.2.1 ≤ 2147483647) (hc : -2147483648 ≤ clk ∧ clk ≤ 2147483647) (hf : fst ≠ 9223372036854775807) :
    El x clk M (if mr < mi - clk then mi - clk else mr) ∧ ∀ r, El x clk M r → r ≤ (if mr < mi - clk then mi - clk else mr) := by
  have hub : ∀ r, El x clk M r → r ≤ (if mr < mi - clk then mi - clk else mr) := by
    rintro r ⟨c, hM, h1, h2, rfl⟩
    unfold rv
    by_cases h0 : c.1 = 0
    · have := h.i2 c hM h1 h0
      rw [if_pos h0]
      split <;> omega
    · have := h.r2 c hM h1 h0
      rw [if_neg h0]
      split <;> omega
  refine ⟨?_, hub⟩
  have hex : ∃ c, M c ∧ c.2.2 = false := by
    apply Classical.byContradiction
    intro hn
    apply hf
    rw [h.f1]
    intro c hM
    cases hcc : c.2.2 with
    | true => rfl
    | false => exact absurd ⟨c, hM, hcc⟩ hn
  obtain ⟨c, hM, hcv⟩ := hex
  have hle := hub _ ⟨c, hM, hcv, hx c hM, rfl⟩
  have hlo : -4611686018427387904 + 4294967296 < (if mr < mi - clk then mi - clk else mr) := by
    have := hb c hM
    unfold rv at hle
    by_cases h0 : c.1 = 0
    · rw [if_pos h0] at hle; omega
    · rw [if_neg h0] at hle; omega
  split
  · rename_i hlt
    rw [if_pos hlt] at hlo
    rcases h.i1 with e | ⟨c', hM', hv', h0', e⟩
    · omega
    · exact ⟨c', hM', hv', hx c' hM', by unfold rv; rw [if_pos h0', e]⟩
  · rename_i hlt
    rw [if_neg hlt] at hlo
    rcases h.r1 with e | ⟨c', hM', hv', h0', e⟩
    · omega
    · exact ⟨c', hM', hv', hx c' hM', by unfold rv; rw [if_neg h0', e]⟩
theorem Fig.vacant {M : Int × Int × Bool → Prop} {fst mr mi x clk : Int} (h : Fig M fst mr mi) (hf : fst = 9223372036854775807) (r : Int) : ¬ El x clk M r := by
  rintro ⟨c, hM, h1, _⟩
  have := h.f1.1 hf c hM
  rw [h1] at this
  cases this
theorem Fig.mi_le {M : Int × Int × Bool → Prop} {fst mr mi : Int} (h : Fig M fst mr mi) (hb : ∀ c, M c → -2147483648 ≤ c.2.1 ∧ c.2.1 ≤ 2147483647) : -4611686018427387904 ≤ mi ∧ mi ≤ 2147483647 := by
  refine ⟨h.i0, ?_⟩
  rcases h.i1 with e | ⟨c, hM, _, _, e⟩
  · omega
  · have := hb c hM; omega
end Go.Proofs.Ybulkefry
