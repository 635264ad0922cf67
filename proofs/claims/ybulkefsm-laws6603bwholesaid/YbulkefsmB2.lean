import Derived.Test.YbulkefsmB1
namespace Go.Proofs.Ybulkefsm.lawS6603BWhole
open Go.RowKit

/-- the closure that captures the variable in block b -/
def closV (b : Nat) : Value := .func (.func 5) #[] #[.pointer (some ⟨b, 0, none⟩)]

/-- what the walk is told of a slice of strings that came in -/
def StrsAt (w : World) (a : Option Addr) (len : Nat) (f : Nat → ByteArray) : Prop := 0 < len → ∃ b off, a = some ⟨b, off, none⟩ ∧ b < w.heap.size ∧ ∀ i, i < len → w.cell? ⟨b, off + i, none⟩ = some (.string (f i))

theorem run_store_any {P : Program} (w : World) (b i : Nat) (v : Value) (hv : v.oneCell' = true) (h : (w.cell? ⟨b, i, none⟩).isSome = true) (hf : w.frozen? ⟨b, i, none⟩ = false) :
    (store ⟨b, i, none⟩ v).run P w = .ok () (w.setCell ⟨b, i, none⟩ v) := by
  rw [run_store P w _ v _ hv]
  obtain ⟨x, hx⟩ := Option.isSome_iff_exists.1 h
  simp [hx, hf]

def want (lenV : Nat) (sv : Nat → ByteArray) (j : Nat) : ByteArray := if 0 < lenV then sv (j % lenV) else ⟨#[]⟩

def A1 (sn : Nat → ByteArray) (k j : Nat) : Value := if j < k then .string (sn j) else .string ⟨#[]⟩
def B1 (s k j : Nat) : Value := if j < k then closV (s + 1 + j) else .nilFunc

theorem mk (n : Nat) (hn : n ≤ 1048576) (w : World) : (Instr.makeSlice 23 (.int .i64 (n : Int)) (.int .i64 (n : Int))).run Yba.prog w =
    .ok (.slice (some ⟨w.heap.size, 0, none⟩) n n) (w.alloc (.cells (madeCells #[.string ⟨#[]⟩, .nilFunc] (n * 2)) 28)) := by
  obtain ⟨i, hi, hz, e2, e3⟩ := info_parts Yba.info28
  have := run_make (P := Yba.prog) w 23 28 i _ Yba.underlying23 hi hz .i64 .i64 n n (by omega) (by omega) (by rw [e3]; omega) (by omega)
  rw [e2] at this
  simpa [Value.cells] using this

theorem func_nil (f : Fn) (a b : Array Value) (w : World) : (binOp .eql 26 (.func f a b) .nilFunc).run Yba.prog w = .ok (.bool false) w := by
  have h : ∀ d : Nat, (Op.equalIn (d + 1) 26 (.func f a b) .nilFunc).run Yba.prog w = .ok false w := fun d => by simp [Op.equalIn, run_underlying Yba.underlying26]
  simp only [binOp]
  simp [Op.equal, Op.maxDepth, h 9999]

theorem round1 {w wr : World} {k n lenV : Nat} {sn sv : Nat → ByteArray} (hlt : k < n) (hz : wr.heap.size = w.heap.size + 1 + k) (hr : Pairs wr w.heap.size 28 (n * 2) n (A1 sn k) (B1 w.heap.size k))
    (hc : ∀ j, j < k → wr.cell? ⟨w.heap.size + 1 + j, 0, none⟩ = some (.string (want lenV sv j))) (hb : Below w.heap.size w wr) (x : ByteArray) (hx : x = want lenV sv k) :
    ∃ k_1 : Nat, k_1 ≤ n ∧ Value.int .i64 ((k : Int) + 1) = .int .i64 k_1 ∧ (((wr.setCell ⟨w.heap.size, k * 2, none⟩ (.string (sn k))).setCell ⟨w.heap.size, k * 2 + 1, none⟩ (closV (w.heap.size + 1 + k))).alloc (.cells #[.string x] 9)).heap.size = w.heap.size + 1 + k_1 ∧
      Pairs (((wr.setCell ⟨w.heap.size, k * 2, none⟩ (.string (sn k))).setCell ⟨w.heap.size, k * 2 + 1, none⟩ (closV (w.heap.size + 1 + k))).alloc (.cells #[.string x] 9)) w.heap.size 28 (n * 2) n (A1 sn k_1) (B1 w.heap.size k_1) ∧
      (∀ j, j < k_1 → (((wr.setCell ⟨w.heap.size, k * 2, none⟩ (.string (sn k))).setCell ⟨w.heap.size, k * 2 + 1, none⟩ (closV (w.heap.size + 1 + k))).alloc (.cells #[.string x] 9)).cell? ⟨w.heap.size + 1 + j, 0, none⟩ = some (.string (want lenV sv j))) ∧
      Below w.heap.size w (((wr.setCell ⟨w.heap.size, k * 2, none⟩ (.string (sn k))).setCell ⟨w.heap.size, k * 2 + 1, none⟩ (closV (w.heap.size + 1 + k))).alloc (.cells #[.string x] 9)) := by
  have hsz : ((wr.setCell ⟨w.heap.size, k * 2, none⟩ (.string (sn k))).setCell ⟨w.heap.size, k * 2 + 1, none⟩ (closV (w.heap.size + 1 + k))).heap.size = w.heap.size + 1 + k := by simpa [World.setCell] using hz
  have hs := hr.set k hlt (.string (sn k)) (closV (w.heap.size + 1 + k))
  refine ⟨k + 1, by omega, by simp, by simp [hsz]; omega, ?_, ?_, ?_⟩
  · refine Pairs.congr (hs.same (Go.heap_alloc_old _ _ (by rw [hsz]; omega))) fun j _ => ?_
    by_cases e : j = k
    · subst e; simp [A1, B1]
    · simp only [if_neg e, A1, B1]
      by_cases l : j < k
      · simp [l, show j < k + 1 by omega]
      · simp [l, show ¬ j < k + 1 by omega]
  · intro j hj
    by_cases e : j = k
    · subst e
      rw [World.cell?_alloc_at _ _ _ _ hsz.symm, hx]; rfl
    · rw [World.cell?_alloc_past _ _ _ (by rw [hsz]; omega), World.cell?_of_block (w := wr) (by rw [Below.heap_setCell _ _ _ _ (by simp; omega), Below.heap_setCell _ _ _ _ (by simp; omega)])]
      exact hc j (by omega)
  · exact ((hb.setCell (Nat.le_refl _) _).setCell (Nat.le_refl _) _).alloc (by rw [hsz]; omega) _

set_option maxRecDepth 100000 in
set_option maxHeartbeats 2000000 in
theorem walk (a0 : Option Addr) (n cap0 : Nat) (sn : Nat → ByteArray) (a1 : Option Addr) (lenV cap1 : Nat) (sv : Nat → ByteArray) (nm ns uid kd : ByteArray) (w : World)
    (h0 : StrsAt w a0 n sn) (h1 : StrsAt w a1 lenV sv) (b0 : n * 16 ≤ 140737488351232) (b1 : lenV * 16 ≤ 140737488351232) (bs : ∀ i, i < n → (sn i).size ≤ 140737488351232) :
    Calls Yba.prog 3 #[.slice a0 n cap0, .slice a1 lenV cap1, .string nm, .string ns, .string uid, .string kd] w fun e w' => e = .returned (.bool true) ∧ Below w.heap.size w w' := by
  by_cases hbig : 1048576 < n + lenV
  · go_enter Yba.func3, Yba.ntmps3
    go_wp2
    go_ret
    exact ⟨rfl, Below.refl _ _⟩
  have hsm : n ≤ 1048576 := by omega
  have hsmV : lenV ≤ 1048576 := by omega
  have hd : decide ((1048576 : Int) < n + lenV) = false := by simp; omega
  have hmk := fun w => mk n hsm w
  have hst : ∀ (w : World) (b i c : Nat), (w.cell? ⟨b, i, none⟩).isSome = true → w.frozen? ⟨b, i, none⟩ = false → (store ⟨b, i, none⟩ (.func (.func 5) #[] #[.pointer (some ⟨c, 0, none⟩)])).run Yba.prog w = .ok () (w.setCell ⟨b, i, none⟩ (.func (.func 5) #[] #[.pointer (some ⟨c, 0, none⟩)])) := fun w b i c => run_store_any w b i _ rfl
  go_enter Yba.func3, Yba.ntmps3
  go_wp2
  go_loopw [15] (fun i wr => ∃ k : Nat, k ≤ n ∧ i = .int .i64 k ∧ wr.heap.size = w.heap.size + 1 + k ∧ Pairs wr w.heap.size 28 (n * 2) n (A1 sn k) (B1 w.heap.size k) ∧ (∀ j, j < k → wr.cell? ⟨w.heap.size + 1 + j, 0, none⟩ = some (.string (want lenV sv j))) ∧ Below w.heap.size w wr) (fun i _ => n - (intOf i).toNat)
  case atStart => exact ⟨0, Nat.zero_le _, rfl, by simp, (Pairs.made w 28 n _ _).congr (fun j _ => by simp [A1, B1]), fun j hj => by omega, (Below.refl _ _).alloc (Nat.le_refl _) _⟩
  case round =>
    obtain ⟨k, hk, rfl, hz, hr, hcap, hb⟩ := hrel
    by_cases hlt : k < n
    · obtain ⟨c1, c2⟩ := hr.cell k hlt
      have f1 := hr.frozen (k * 2)
      have f2 := hr.frozen (k * 2 + 1)
      simp only [A1, B1, Nat.lt_irrefl, if_false] at c1 c2
      obtain ⟨bN, oN, rfl, lN, cN⟩ := h0 (by omega)
      have cNk := cN k hlt
      have lN' : bN < w.heap.size + 1 + k := by omega
      have lg' : w.heap.size < w.heap.size + 1 + k := by omega
      rw [← hb.cell (p := ⟨bN, oN + k, none⟩) lN] at cNk
      have HR := hide hr
      have HC := hide hcap
      clear cN h0 bs hr hcap
      by_cases hv : 0 < lenV
      · obtain ⟨bV, oV, rfl, lV, cV⟩ := h1 hv
        have cVk := cV (k % lenV) (Nat.mod_lt _ hv)
        rw [← hb.cell (p := ⟨bV, oV + k % lenV, none⟩) lV] at cVk
        have lV' : bV < w.heap.size + 1 + k := by omega
        have hm1 : 0 ≤ (k : Int) % (lenV : Int) := by omega
        have hm2 : (k : Int) % (lenV : Int) < lenV := Int.emod_lt_of_pos _ (by omega)
        clear cV h1
        go_wp2
        exact ⟨round1 hlt hz HR.out HC.out hb _ (by simp [want, hv]), by simp [intOf]; omega⟩
      · go_wp2
        exact ⟨round1 hlt hz HR.out HC.out hb _ (by simp [want, hv]), by simp [intOf]; omega⟩
    · obtain rfl : k = n := by omega
      have hpr : Pairs wr w.heap.size 28 (k * 2) k (fun j => .string (sn j)) (fun j => closV (w.heap.size + 1 + j)) := hr.congr fun j hj => by simp [A1, B1, hj]
      have HP := hide hpr
      have HC := hide hcap
      clear hr hpr hcap hmk
      go_wp2_with fail
      have hgl := HP.out.lt
      have hP3 := HP.out.same (Go.heap_alloc_old wr (.cells #[.string ⟨#[]⟩, .string kd, .string nm, .string ns, .string uid, .string ⟨#[]⟩, .string ⟨#[]⟩, .map none, .slice none 0 0] 37) hgl)
      refine (mfields w.heap.size k (fun j => .string (sn j)) (fun j => closV (w.heap.size + 1 + j)) _ hsm hP3 (fun j _ => ⟨rfl, rfl⟩)).mono ?_
      rintro e w4 ⟨gb, cap, rfl, hgb, hPg, hb4⟩
      have hsz3 : (wr.alloc (.cells #[.string ⟨#[]⟩, .string kd, .string nm, .string ns, .string uid, .string ⟨#[]⟩, .string ⟨#[]⟩, .map none, .slice none 0 0] 37)).heap.size = w.heap.size + 1 + k + 1 := by simp [hz]
      rw [hsz3] at hb4 hgb
      have HPm := hide (hP3.below hb4 (by omega))
      have HPg := hide hPg
      have HCx : Hid (∀ j, j < k → w4.cell? ⟨w.heap.size + 1 + j, 0, none⟩ = some (.string (want lenV sv j))) := fun j hj => by
        rw [hb4.cell (p := ⟨w.heap.size + 1 + j, 0, none⟩) (by simp; omega), World.cell?_alloc_past _ _ _ (by omega)]
        exact HC.out j hj
      have hob : ∀ i, w4.cell? ⟨w.heap.size + 1 + k, i, none⟩ = (#[.string ⟨#[]⟩, .string kd, .string nm, .string ns, .string uid, .string ⟨#[]⟩, .string ⟨#[]⟩, .map none, .slice none 0 0] : Array Value)[i]? := fun i => by
        rw [hb4.cell (p := ⟨w.heap.size + 1 + k, i, none⟩) (by simp), World.cell?_alloc_at _ _ _ _ hz.symm]
      have o1 := hob 1
      have o2 := hob 2
      have o3 := hob 3
      have o4 := hob 4
      simp only [List.getElem?_toArray, List.getElem?_cons_succ, List.getElem?_cons_zero] at o1 o2 o3 o4
      have Hbw : Hid (Below w.heap.size w w4) := (hb.alloc (by omega) _).trans (hb4.mono (by omega))
      have hz4 : gb < w4.heap.size := hPg.lt
      obtain ⟨g0, g1⟩ := hPg.cell 0 (by omega)
      obtain ⟨g2, g3⟩ := hPg.cell 1 (by omega)
      have hfn := func_nil
      simp only [gotA, gotB, Nat.zero_mul, Nat.one_mul, Nat.zero_add, Nat.reduceAdd, nmS, nsS] at g0 g1 g2 g3
      clear hob hP3 hPg HP HC hb4 hz hb hgl hsz3
      go_wp2_with (first | (go_at_call 8; refine (fld1 _ nm _ (by assumption)).mono ?_; rintro e w' ⟨rfl, rfl⟩) | (go_at_call 9; refine (fld2 _ ns _ (by assumption)).mono ?_; rintro e w' ⟨rfl, rfl⟩))
      go_loopw [19] (fun i wx => ∃ j : Nat, j ≤ k ∧ i = .int .i64 j ∧ Below w4.heap.size w4 wx) (fun i _ => k - (intOf i).toNat)
      case atStart => exact ⟨0, Nat.zero_le _, rfl, Below.refl _ _⟩
      case round =>
        obtain ⟨j, hj, rfl, hbx⟩ := hrel
        by_cases hjl : j < k
        · obtain ⟨p1, p2⟩ := HPg.out.cell (j + 2) (by omega)
          rw [← hbx.cell (p := ⟨gb, (j + 2) * 2, none⟩) hz4] at p1
          rw [← hbx.cell (p := ⟨gb, (j + 2) * 2 + 1, none⟩) hz4] at p2
          simp only [gotA, gotB, closV] at p1 p2
          have pc := HCx.out j hjl
          rw [← hbx.cell (p := ⟨w.heap.size + 1 + j, 0, none⟩) (by simp; omega)] at pc
          obtain ⟨bN, oN, rfl, lN, cN⟩ := h0 (by omega)
          have cNj := cN j hjl
          rw [← Hbw.out.cell (p := ⟨bN, oN + j, none⟩) lN, ← hbx.cell (p := ⟨bN, oN + j, none⟩) (by simp; omega)] at cNj
          have hzx : w4.heap.size ≤ wr.heap.size := hbx.size
          have lN' : bN < wr.heap.size := by omega
          have lc : w.heap.size + 1 + j < wr.heap.size := by omega
          have CL : Hid (∀ (m : Nat) (O : Obj) (o : Value), Calls Yba.prog 5 #[o, .pointer (some ⟨w.heap.size + 1 + j, 0, none⟩)] ((wr.alloc O).drewN m) fun e w' => e = .returned (.string (want lenV sv j)) ∧ w' = (wr.alloc O).drewN m) := fun m O o =>
            (clos _ o _ _ (by show (wr.alloc O).cell? _ = _; rw [World.cell?_alloc_past _ _ _ lc]; exact pc)).mono fun _ _ h => ⟨h.1, h.2.symm⟩
          clear g0 g1 g2 g3 o1 o2 o3 o4 h0 cN bs
          by_cases hv : 0 < lenV
          · obtain ⟨bV, oV, rfl, lV, cV⟩ := h1 hv
            have cVj := cV (j % lenV) (Nat.mod_lt _ hv)
            rw [← Hbw.out.cell (p := ⟨bV, oV + j % lenV, none⟩) lV, ← hbx.cell (p := ⟨bV, oV + j % lenV, none⟩) (by simp; omega)] at cVj
            have hm1 : 0 ≤ (j : Int) % (lenV : Int) := by omega
            have hm2 : (j : Int) % (lenV : Int) < lenV := Int.emod_lt_of_pos _ (by omega)
            simp only [want, hv, if_true] at pc CL
            have lV' : bV < wr.heap.size := by omega
            clear cV h1
            go_wp2
            go_quiet ((go_at_call 5; exact Calls.quiet_of_same (CL.out _ _ _)))
            go_wp2
            exact ⟨⟨j + 1, by omega, by go_num, below_drewN (hbx.alloc hzx _) nq⟩, by simp [intOf]; omega⟩
          · simp only [want, hv, if_false] at pc CL
            clear h1
            go_wp2
            go_quiet ((go_at_call 5; exact Calls.quiet_of_same (CL.out _ _ _)))
            go_wp2
            exact ⟨⟨j + 1, by omega, by go_num, below_drewN (hbx.alloc hzx _) nq⟩, by simp [intOf]; omega⟩
        · have hjk : j = k := by omega
          subst hjk
          have hzx : w4.heap.size ≤ wr.heap.size := hbx.size
          rw [← hbx.cell (p := ⟨w.heap.size + 1 + j, 1, none⟩) (by simp; omega)] at o1
          rw [← hbx.cell (p := ⟨w.heap.size + 1 + j, 2, none⟩) (by simp; omega)] at o2
          rw [← hbx.cell (p := ⟨w.heap.size + 1 + j, 3, none⟩) (by simp; omega)] at o3
          rw [← hbx.cell (p := ⟨w.heap.size + 1 + j, 4, none⟩) (by simp; omega)] at o4
          have HbW := hide (Hbw.out.trans (hbx.mono (by omega)))
          have HPM := hide (HPm.out.below hbx (by omega))
          have HPG := hide (HPg.out.below hbx hz4)
          clear g0 g1 g2 g3 hst HPm HPg Hbw HCx hbx h1 b1
          rename World => w5
          go_wp2
          go_loopw [22] (fun i wx => ∃ m : Nat, m ≤ j ∧ i = .int .i64 m ∧ (∃ A B, Pairs wx gb 28 (cap * 2) (j + 2) A B) ∧ Below gb w5 wx) (fun i _ => j - (intOf i).toNat)
          case atStart => exact ⟨0, Nat.zero_le _, rfl, ⟨_, _, HPG.out⟩, Below.refl _ _⟩
          case round =>
            obtain ⟨m, hm, rfl, ⟨A, B, hPx⟩, hbx⟩ := hrel
            by_cases hml : m < j
            · obtain ⟨p1, p2⟩ := hPx.cell (m + 2) (by omega)
              have f1 := hPx.frozen ((m + 2) * 2)
              have f2 := hPx.frozen ((m + 2) * 2 + 1)
              obtain ⟨bN, oN, rfl, lN, cN⟩ := h0 (by omega)
              have cNm := cN m hml
              rw [← HbW.out.cell (p := ⟨bN, oN + m, none⟩) lN, ← hbx.cell (p := ⟨bN, oN + m, none⟩) (by simp; omega)] at cNm
              have bsm := bs m hml
              have hst2 : ∀ (w : World) (b i : Nat), (w.cell? ⟨b, i, none⟩).isSome = true → w.frozen? ⟨b, i, none⟩ = false → (store ⟨b, i, none⟩ .nilFunc).run Yba.prog w = .ok () (w.setCell ⟨b, i, none⟩ .nilFunc) := fun w b i => run_store_any w b i _ rfl
              clear cN h0 bs o1 o2 o3 o4
              go_wp2
              exact ⟨⟨m + 1, by omega, by go_num, ⟨_, _, hPx.set (m + 2) (by omega) _ _⟩, (hbx.setCell (Nat.le_refl _) _).setCell (Nat.le_refl _) _⟩, by simp [intOf]; omega⟩
            · have hmj : m = j := by omega
              subst hmj
              have HPX := hide (HPM.out.below hbx (by omega))
              have HbX := hide (HbW.out.trans (hbx.mono (by omega)))
              clear HPM HbW HPG hPx hbx bs o1 o2 o3 o4
              rename World => w6
              go_wp2
              go_loopw [23] (fun i wx => ∃ j : Nat, j ≤ m ∧ i = .int .i64 j ∧ Below w6.heap.size w6 wx) (fun i _ => m - (intOf i).toNat)
              case atStart => exact ⟨0, Nat.zero_le _, rfl, Below.refl _ _⟩
              case round =>
                obtain ⟨j, hj', rfl, hbx⟩ := hrel
                have hgl := HPX.out.lt
                by_cases hjl' : j < m
                · obtain ⟨p1, p2⟩ := HPX.out.cell j hjl'
                  rw [← hbx.cell (p := ⟨w.heap.size, j * 2, none⟩) hgl] at p1
                  rw [← hbx.cell (p := ⟨w.heap.size, j * 2 + 1, none⟩) hgl] at p2
                  obtain ⟨bN, oN, rfl, lN, cN⟩ := h0 (by omega)
                  have cNj := cN j hjl'
                  rw [← HbX.out.cell (p := ⟨bN, oN + j, none⟩) lN, ← hbx.cell (p := ⟨bN, oN + j, none⟩) (by simp; omega)] at cNj
                  simp only [closV] at p2
                  clear cN h0
                  go_wp2
                  go_quiet (fail)
                  go_wp2
                  exact ⟨⟨j + 1, by omega, by go_num, below_drewN hbx _⟩, by simp [intOf]; omega⟩
                · go_wp2
                  go_ret
                  exact ⟨rfl, HbX.out.trans (hbx.mono (by omega))⟩
end Go.Proofs.Ybulkefsm.lawS6603BWhole
