import Derived.Test.YbulkeftaT7
namespace Go.Proofs.Ybulkefta
open Go.RowKit

theorem sumTo_mono (g : Nat → Nat) : ∀ k j, j ≤ k → sumTo g j ≤ sumTo g k
  | 0, j, h => by rw [Nat.le_zero.1 h]; exact Nat.le_refl _
  | k + 1, j, h => by
    by_cases e : j = k + 1
    · rw [e]; exact Nat.le_refl _
    · have := sumTo_mono g k j (by omega)
      simp only [sumTo]; omega
theorem sumTo_term (g : Nat → Nat) (k j : Nat) (h : j < k) : g j ≤ sumTo g k := by
  have := sumTo_mono g k (j + 1) (by omega)
  simp only [sumTo] at this; omega

/-- what the walk is told of the elements that came in -/
structure Inp (w : World) (a1 : Option Addr) (n : Nat) (kd : Nat → Int) (tx : Nat → Value) (tb : Nat → List Int) (sa : Nat → Option Addr) (sl sc : Nat → Nat) (sx : Nat → Nat → Value) (sb : Nat → Nat → List Int) : Prop where
  elem : 0 < n → ∃ eb eo, a1 = some ⟨eb, eo, none⟩ ∧ eb < w.heap.size ∧ ∀ i, i < n → w.cell? ⟨eb, eo + i * 3, none⟩ = some (.int .u8 (kd i)) ∧ w.cell? ⟨eb, eo + i * 3 + 1, none⟩ = some (tx i) ∧ w.cell? ⟨eb, eo + i * 3 + 2, none⟩ = some (.slice (sa i) (sl i) (sc i))
  kind : ∀ i, i < n → 0 ≤ kd i ∧ kd i ≤ 255
  text : ∀ i, i < n → BytesAt w (fun _ => True) (tx i) (tb i)
  sub : ∀ i, i < n → 0 < sl i → ∃ b o, sa i = some ⟨b, o, none⟩ ∧ b < w.heap.size ∧ ∀ j, j < sl i → w.cell? ⟨b, o + j, none⟩ = some (sx i j) ∧ BytesAt w (fun _ => True) (sx i j) (sb i j)
  tlen : ∀ i, i < n → (tb i).length ≤ maxLen
  slen : ∀ i, i < n → sl i ≤ maxLen
  blen : ∀ i, i < n → ∀ j, j < sl i → (sb i j).length ≤ maxLen

/-- what the elements weigh -/
def wt (tb : Nat → List Int) (sl : Nat → Nat) (sb : Nat → Nat → List Int) (i : Nat) : Nat := (tb i).length + sl i + sumTo (fun j => (sb i j).length) (sl i)

theorem jn_le_fc (f : Nat → List Int) (k : Nat) : (jn f k).length ≤ (fc f k).length := by
  by_cases h : 0 < k
  · rw [fc_jn f k h]; simp
  · obtain rfl : k = 0 := by omega
    exact Nat.le_refl _
theorem BB_one (kd : Nat → Int) (tb : Nat → List Int) (sl : Nat → Nat) (sb : Nat → Nat → List Int) (i : Nat) : (BB kd tb sl sb i).length ≤ wt tb sl sb i + 2 := by
  unfold BB wt
  split
  · omega
  · split
    · omega
    · have h1 := jn_le_fc (sb i) (sl i)
      rw [fc_len] at h1
      simp only [arr, List.length_cons, List.length_append, List.length_nil]
      omega
theorem sumTo_le {g h : Nat → Nat} (c : Nat) : ∀ k, (∀ i, i < k → g i ≤ h i + c) → sumTo g k ≤ sumTo h k + c * k
  | 0, _ => Nat.zero_le _
  | k + 1, hh => by
    have h1 := sumTo_le c k (fun i hi => hh i (by omega))
    have h2 := hh k (by omega)
    simp only [sumTo, Nat.mul_succ]; omega
theorem csum_le (kd : Nat → Int) : ∀ k, csum (cc kd) k ≤ k
  | 0 => Nat.le_refl _
  | k + 1 => by
    have := csum_le kd k
    simp only [csum, cc]; split <;> omega
theorem BB_len (kd : Nat → Int) (tb : Nat → List Int) (sl : Nat → Nat) (sb : Nat → Nat → List Int) (d k : Nat) (h : 0 < k → d + k + sumTo (wt tb sl sb) k ≤ 1048576) :
    csum (cc kd) k ≤ 1048576 ∧ (arr (BB kd tb sl sb) k).length ≤ 16777216 ∧ (fc (BB kd tb sl sb) k).length ≤ 16777216 := by
  by_cases hk : 0 < k
  · have h0 := h hk
    have h1 := sumTo_le (g := fun i => (BB kd tb sl sb i).length) (h := wt tb sl sb) 2 k (fun i _ => BB_one kd tb sl sb i)
    have h2 := jn_le_fc (BB kd tb sl sb) k
    have h3 := csum_le kd k
    rw [fc_len] at h2
    rw [fc_len]
    refine ⟨by omega, ?_, by omega⟩
    simp only [arr, List.length_cons, List.length_append, List.length_nil]
    omega
  · obtain rfl : k = 0 := by omega
    simp [csum, arr, jn, fc]

set_option maxRecDepth 100000 in
set_option maxHeartbeats 4000000 in
theorem walk (dv : Value) (db : List Int) (a1 : Option Addr) (n cap1 : Nat) (kd : Nat → Int) (tx : Nat → Value) (tb : Nat → List Int) (sa : Nat → Option Addr) (sl sc : Nat → Nat) (sx : Nat → Nat → Value) (sb : Nat → Nat → List Int)
    (w : World) (hD : BytesAt w (fun _ => True) dv db) (hDl : db.length ≤ maxLen) (hnl : n ≤ maxLen) (hI : Inp w a1 n kd tx tb sa sl sc sx sb) :
    Calls Yba.prog 4 #[dv, .slice a1 n cap1] w fun e w' => e = .returned (.bool true) ∧ Below w.heap.size w w' := by
  obtain ⟨da, dc, rfl⟩ := hD.shape
  have HD := hide hD
  have HI := hide hI
  clear hD hI
  unfold maxLen at hDl hnl
  by_cases q1 : 1048576 < db.length
  · go_enter Yba.func4, Yba.ntmps4
    go_wp2
    go_ret
    exact ⟨rfl, Below.refl _ _⟩
  by_cases q2 : 1048576 < n
  · have q1' : decide ((1048576 : Int) < db.length) = false := by simp; omega
    go_enter Yba.func4, Yba.ntmps4
    go_wp2
    go_ret
    exact ⟨rfl, Below.refl _ _⟩
  have p1 : db.length ≤ 1048576 := by omega
  have p2 : n ≤ 1048576 := by omega
  have q1' : decide ((1048576 : Int) < db.length) = false := by simp; omega
  have q2' : decide ((1048576 : Int) < n) = false := by simp; omega
  go_enter Yba.func4, Yba.ntmps4
  go_wp2
  go_loopw [5, 36] (fun t i wr => ∃ k : Nat, k ≤ n ∧ i = .int .i64 k ∧ t = .int .i64 ((db.length + n + sumTo (wt tb sl sb) k : Nat) : Int) ∧ (0 < k → db.length + n + sumTo (wt tb sl sb) k ≤ 1048576) ∧ Below w.heap.size w wr) (fun _ i _ => n - (intOf i).toNat)
  case atStart => exact ⟨0, Nat.zero_le _, rfl, rfl, fun h => absurd h (by omega), Below.refl _ _⟩
  case round =>
    obtain ⟨k, hk, rfl, rfl, htot, hb⟩ := hrel
    by_cases hlt : k < n
    · obtain ⟨eb, eo, rfl, heb, hel⟩ := HI.out.elem (by omega)
      obtain ⟨c0, c1, c2⟩ := hel k hlt
      have C2 := hide c2
      rw [← hb.cell (p := ⟨eb, eo + k * 3, none⟩) heb] at c0
      rw [← hb.cell (p := ⟨eb, eo + k * 3 + 1, none⟩) heb] at c1
      rw [← hb.cell (p := ⟨eb, eo + k * 3 + 2, none⟩) heb] at c2
      obtain ⟨ta, tc, htx⟩ := (HI.out.text k hlt).shape
      rw [htx] at c1
      have htl := HI.out.tlen k hlt
      have hsl := HI.out.slen k hlt
      unfold maxLen at htl hsl
      have HW := hide (show wt tb sl sb k = (tb k).length + sl k + sumTo (fun j => (sb k j).length) (sl k) from rfl)
      have hT0 : db.length + n + sumTo (wt tb sl sb) k ≤ 2097152 := by
        by_cases h : 0 < k
        · have := htot h; omega
        · obtain rfl : k = 0 := by omega
          simp only [sumTo]; omega
      have HSu := hide (show sumTo (wt tb sl sb) (k + 1) = sumTo (wt tb sl sb) k + wt tb sl sb k from rfl)
      clear hel htx htot
      by_cases g1 : 1048576 < (tb k).length
      · go_wp2
        go_ret
        exact ⟨rfl, hb⟩
      have g1' : decide ((1048576 : Int) < (tb k).length) = false := by simp; omega
      by_cases g2 : 1048576 < sl k
      · go_wp2
        go_ret
        exact ⟨rfl, hb⟩
      have g2' : decide ((1048576 : Int) < sl k) = false := by simp; omega
      generalize htk : (tb k).length = tl at *
      generalize hsu : sumTo (wt tb sl sb) k = su at *
      have Htk := hide htk
      have Hsu := hide hsu
      clear htk hsu
      by_cases g3 : 1048576 < db.length + n + su + (tl + sl k)
      · go_wp2
        go_quiet (fail)
        go_wp2
        go_ret
        exact ⟨rfl, below_drewN hb _⟩
      · have g3' : decide ((1048576 : Int) < db.length + n + su + (tl + sl k)) = false := by simp; omega
        go_wp2
        go_quiet (fail)
        have hb' := below_drewN hb nq
        go_wp2
        go_loopw [5, 78] (fun t i wx => ∃ j : Nat, j ≤ sl k ∧ i = .int .i64 j ∧ t = .int .i64 ((db.length + n + su + (tl + sl k) + sumTo (fun j => (sb k j).length) j : Nat) : Int) ∧ db.length + n + su + (tl + sl k) + sumTo (fun j => (sb k j).length) j ≤ 1048576 ∧ Below w.heap.size w wx) (fun _ i _ => sl k - (intOf i).toNat)
        case atStart => exact ⟨0, Nat.zero_le _, rfl, by simp [sumTo], by simp only [sumTo]; omega, hb'⟩
        case round =>
          obtain ⟨j, hj, rfl, rfl, hjt, hbx⟩ := hrel
          by_cases hjl : j < sl k
          · obtain ⟨b2, o2, esa, hb2, hsx⟩ := HI.out.sub k hlt (by omega)
            obtain ⟨d1, d2⟩ := hsx j hjl
            have d1' := d1
            rw [← hbx.cell (p := ⟨b2, o2 + j, none⟩) hb2] at d1'
            obtain ⟨xa, xc, ex⟩ := d2.shape
            rw [ex] at d1'
            have hbl := HI.out.blen k hlt j hjl
            unfold maxLen at hbl
            have c2' := C2.out
            rw [← hbx.cell (p := ⟨eb, eo + k * 3 + 2, none⟩) heb, esa] at c2'
            have HSM := hide (show sumTo (fun j => (sb k j).length) (j + 1) = sumTo (fun j => (sb k j).length) j + (sb k j).length from rfl)
            clear d1 d2 hsx esa ex c0 c1 c2
            generalize hsj : (sb k j).length = bl at *
            generalize hsu2 : sumTo (fun j => (sb k j).length) j = sj at *
            have Hsj := hide hsj
            have Hsu2 := hide hsu2
            clear hsj hsu2
            by_cases g4 : 1048576 < bl
            · go_wp2
              go_ret
              exact ⟨rfl, hbx⟩
            have g4' : decide ((1048576 : Int) < bl) = false := by simp; omega
            by_cases g5 : 1048576 < db.length + n + su + (tl + sl k) + sj + bl
            · go_wp2
              go_ret
              exact ⟨rfl, hbx⟩
            · go_wp2
              refine ⟨⟨j + 1, by omega, by go_num, ?_, ?_, hbx⟩, by simp [intOf]; omega⟩
              · rw [HSM.out]
                congr 1
                omega
              · rw [HSM.out]; omega
          · have hjs : j = sl k := by omega
            subst hjs
            have HTT : Hid (db.length + n + su + (tl + sl k) + sumTo (fun j => (sb k j).length) (sl k) = db.length + n + sumTo (wt tb sl sb) (k + 1)) := by
              show _ = _
              rw [HSu.out, HW.out]; omega
            go_wp2
            exact ⟨⟨k + 1, by omega, by go_num, by rw [HTT.out], fun _ => by rw [← HTT.out]; exact hjt, hbx⟩, by simp [intOf]; omega⟩
    · have hkn : k = n := by omega
      subst hkn
      have HTOT := hide htot
      have HCS : Hid (∀ j, csum (cc kd) j ≤ j) := fun j => by
        show csum (cc kd) j ≤ j
        induction j with
        | zero => exact Nat.le_refl _
        | succ j ih => simp only [csum, cc]; split <;> omega
      have HL : Hid (∀ j, j < k → db.length + k + wt tb sl sb j ≤ 1048576) := fun j hj => by
        have h1 := htot (by omega)
        have h2 := sumTo_term (wt tb sl sb) k j hj
        omega
      have hmk54 := fun w => mk54 k p2 w
      have hmk50 := fun w => mk50 k p2 w
      clear htot
      rename World => w1
      generalize ((db.length + k + sumTo (wt tb sl sb) k : Nat) : Int) = TT
      go_wp2
      go_loopw [9, 10, 11, 114] (fun wc va vp i wr => ∃ (j : Nat) (A N P : Nat → Value), j ≤ k ∧ i = .int .i64 j ∧ wc = .int .i64 (csum (cc kd) j) ∧ va = .slice (some ⟨w1.heap.size + 1, 0, none⟩) j k ∧ vp = .slice (some ⟨w1.heap.size + 2, 0, none⟩) j k ∧
        Bld w1 wr k j j A N P (BB kd tb sl sb) (cc kd) (fun j => kd j % 3 = 0)) (fun _ _ _ i _ => k - (intOf i).toNat)
      case atStart =>
        refine ⟨0, fun _ => .nilIface, fun _ => .nilIface, fun _ => .nilIface, Nat.zero_le _, rfl, rfl, by simp, by simp, Bld.made w1 k _ _ _ _ _ _⟩
      case round =>
        obtain ⟨j, A, N, P, hj, rfl, rfl, rfl, rfl, hB⟩ := hrel
        by_cases hjl : j < k
        · obtain ⟨eb, eo, rfl, heb, hel⟩ := HI.out.elem (by omega)
          obtain ⟨e0, e1, e2⟩ := hel j hjl
          obtain ⟨ta, tc, htx⟩ := (HI.out.text j hjl).shape
          have hbw : Below w.heap.size w wr := hb.trans (hB.below.mono hb.size)
          have c0 := e0
          have c1 := e1
          have c2 := e2
          rw [← hbw.cell (p := ⟨eb, eo + j * 3, none⟩) heb] at c0
          rw [← hbw.cell (p := ⟨eb, eo + j * 3 + 1, none⟩) heb] at c1
          rw [← hbw.cell (p := ⟨eb, eo + j * 3 + 2, none⟩) heb] at c2
          rw [htx] at c1
          have hkd := HI.out.kind j hjl
          obtain ⟨kd0, kd1⟩ := hkd
          rcases (show kd j % 3 = 0 ∨ kd j % 3 = 1 ∨ kd j % 3 = 2 by omega) with m0 | m1 | m2
          · have hl0 := HL.out j hjl
            simp only [wt] at hl0
            have hbt : BytesAt wr (fun _ => True) (.slice ta (tb j).length tc) (tb j) := by rw [← htx]; exact (HI.out.text j hjl).keep (fun k _ hk => hbw.block k hk) hbw.size
            have HE1 := hide e1
            clear hel e0 e1 e2
            go_wp2_with fail
            refine (clone _ (tb j) _ wr hbt (by omega)).mono ?_
            rintro e w2 ⟨v2, rfl, hcl⟩
            obtain ⟨a2, rfl, hn2⟩ := hcl.full
            have hB2 := hB.keep hcl.below
            have hbw2 : Below w.heap.size w w2 := hbw.trans (hcl.below.mono hbw.size)
            have hsz2 := hB2.size
            have HT2 := hide (hcl.at'.sub (T' := fun k => w1.heap.size + 3 ≤ k) (fun k hk _ => by have := hB.size; rw [hk]; exact this))
            have hr2 : PairsRow (w2.alloc (.cells #[.slice a2 (tb j).length (tb j).length, .nilIface] 43)) (w1.heap.size + 1) k j A N := hB2.arr.same (Go.heap_alloc_old w2 _ (by omega))
            have HB2 := hide hB2
            have HR2 := hide hr2
            clear hcl hB hB2 hr2 hbt hn2 c0 c1 c2
            go_wp2_with (at_builtin; refine wpList_append_pair rfl (.tmp 182) (.tmp 189) rfl (w1.heap.size + 1) k j w2.heap.size A N (.slice a2 (tb j).length (tb j).length) .nilIface rfl HR2.out hjl rfl (by simp) (by simp) rfl rfl ?_)
            intro w3 hr3 hg3 hz3
            have hB3 := (HB2.out.keep ((Below.refl _ _).alloc (Nat.le_refl _) (.cells #[.slice a2 (tb j).length (tb j).length, .nilIface] 43))).pushA hr3 hg3
            have HT3 := hide ((HT2.out.keep (w' := w2.alloc (.cells #[.slice a2 (tb j).length (tb j).length, .nilIface] 43)) (fun k _ hk => Go.heap_alloc_old w2 _ hk) (by simp)).keep (w' := w3) (fun k hk hl => hg3.block k hl (by simp; omega)) hg3.size)
            have hbw3 : Below w.heap.size w w3 := hb.trans (hB3.below.mono hb.size)
            have hbt3 : BytesAt w3 (fun _ => True) (.slice ta (tb j).length tc) (tb j) := by rw [← htx]; exact (HI.out.text j hjl).keep (fun k _ hk => hbw3.block k hk) hbw3.size
            have c1 := HE1.out
            rw [htx, ← hbw3.cell (p := ⟨eb, eo + j * 3 + 1, none⟩) heb] at c1
            have HB3 := hide hB3
            have HBT3 := hide hbt3
            have HBW3 := hide hbw3
            clear hr3 hg3 hz3 hB3 hbt3 hbw3 HB2 HR2 HT2 hbw2 hsz2 hbw
            go_wp2_with fail
            refine (clone _ (tb j) _ w3 HBT3.out (by omega)).mono ?_
            rintro e w4 ⟨v4, rfl, hcl⟩
            obtain ⟨a4, rfl, hn4⟩ := hcl.full
            have hB4 := HB3.out.keep hcl.below
            have hsz4 := hB4.size
            have HT4 := hide (hcl.at'.sub (T' := fun k => w1.heap.size + 3 ≤ k) (fun k hk _ => by have := HB3.out.size; rw [hk]; exact this))
            have HT4' := hide (HT3.out.keep (w' := w4) (fun k _ hk => hcl.below.block k hk) hcl.below.size)
            have HR4 := hide (hB4.pcs.same (w' := w4.alloc (.cells #[.slice a4 (tb j).length (tb j).length] 22)) (Go.heap_alloc_old w4 _ (by omega)))
            have HB4 := hide hB4
            clear hcl hB4 HB3 HBT3 HBW3 HT3 hn4
            go_wp2_with (at_builtin; refine wpList_append_piece rfl (.tmp 191) (.tmp 197) rfl (w1.heap.size + 2) k j w4.heap.size P (.slice a4 (tb j).length (tb j).length) rfl HR4.out hjl rfl (by simp) rfl ?_)
            intro w5 hr5 hg5 hz5
            have HB5 := hide ((HB4.out.keep ((Below.refl _ _).alloc (Nat.le_refl _) (.cells #[.slice a4 (tb j).length (tb j).length] 22))).pushP hr5 hg5
              (.inl ⟨by simp [upd], by simp [cc, m0], by
                have e : BB kd tb sl sb j = tb j := by simp [BB, m0]
                rw [e]; simp only [upd, if_true]
                exact HT4'.out.keep (fun k _ hk => Go.heap_alloc_old w4 _ hk) (by simp)⟩)
              (by
                have e : BB kd tb sl sb j = tb j := by simp [BB, m0]
                rw [e]
                exact HT4.out.keep (fun k _ hk => Go.heap_alloc_old w4 _ hk) (by simp))
              (fun _ => by simp [upd]))
            clear hr5 hg5 hz5 HB4 HR4 HT4 HT4'
            go_wp2
            go_roundw
            case rel => exact ⟨j + 1, _, _, _, by omega, by go_num, by simp [csum, cc, m0], rfl, rfl, HB5.out⟩
            case measure => simp [intOf]; omega
          · have hl0 := HL.out j hjl
            simp only [wt] at hl0
            have hbt : BytesAt wr (fun _ => True) (.slice ta (tb j).length tc) (tb j) := by rw [← htx]; exact (HI.out.text j hjl).keep (fun k _ hk => hbw.block k hk) hbw.size
            have HE1 := hide e1
            have hcs : csum (cc kd) j ≤ j := HCS.out j
            clear hel e0 e1 e2
            go_wp2_with fail
            refine (clone _ (tb j) _ wr hbt (by omega)).mono ?_
            rintro e w2 ⟨v2, rfl, hcl⟩
            obtain ⟨a2, rfl, hn2⟩ := hcl.full
            have hB2 := hB.keep hcl.below
            have hsz2 := hB2.size
            have HT2 := hide (hcl.at'.sub (T' := fun k => w1.heap.size + 3 ≤ k) (fun k hk _ => by have := hB.size; rw [hk]; exact this))
            have hB2' := hB2.keep (((Below.refl _ _).alloc (Nat.le_refl _) (.cells #[.slice a2 (tb j).length (tb j).length, .pointer (some ⟨w1.heap.size, 0, none⟩)] 59)).alloc (by simp) (.cells #[.slice none 0 0, .iface 56 (.pointer (some ⟨w2.heap.size, 0, none⟩))] 43))
            have HB2 := hide hB2'
            have HR2 := hide hB2'.arr
            have HT2' := hide (HT2.out.keep (w' := (w2.alloc (.cells #[.slice a2 (tb j).length (tb j).length, .pointer (some ⟨w1.heap.size, 0, none⟩)] 59)).alloc (.cells #[.slice none 0 0, .iface 56 (.pointer (some ⟨w2.heap.size, 0, none⟩))] 43)) (fun k _ hk => by rw [Go.heap_alloc_old _ _ (by simp; omega), Go.heap_alloc_old w2 _ hk]) (by simp; omega))
            have HNB : Hid (((w2.alloc (.cells #[.slice a2 (tb j).length (tb j).length, .pointer (some ⟨w1.heap.size, 0, none⟩)] 59)).alloc (.cells #[.slice none 0 0, .iface 56 (.pointer (some ⟨w2.heap.size, 0, none⟩))] 43)).heap[w2.heap.size]? = some (.cells #[.slice a2 (tb j).length (tb j).length, .pointer (some ⟨w1.heap.size, 0, none⟩)] 59 (0, 0))) := by
              show _ = _
              rw [Go.heap_alloc_old _ _ (by simp)]; exact heap_alloc_new w2 _
            clear hcl hB hB2 hB2' hbt hn2 c0 c1 c2 HT2
            go_wp2_with (at_builtin; refine wpList_append_pair rfl (.tmp 201) (.tmp 211) rfl (w1.heap.size + 1) k j (w2.heap.size + 1) A N (.slice none 0 0) (.iface 56 (.pointer (some ⟨w2.heap.size, 0, none⟩))) rfl HR2.out hjl rfl (by simp) (by simp) rfl rfl ?_)
            intro w3 hr3 hg3 hz3
            have hB3 := HB2.out.pushA hr3 hg3
            have HT3 := hide (HT2'.out.keep (w' := w3) (fun k hk hl => hg3.block k hl (by simp; omega)) hg3.size)
            have HNB3 : Hid (w3.heap[w2.heap.size]? = some (.cells #[.slice a2 (tb j).length (tb j).length, .pointer (some ⟨w1.heap.size, 0, none⟩)] 59 (0, 0))) := (hg3.block w2.heap.size (by simp; omega) (by simp; omega)).trans HNB.out
            have hw2l : w2.heap.size < w3.heap.size := by omega
            have hbw3 : Below w.heap.size w w3 := hb.trans (hB3.below.mono hb.size)
            have hbt3 : BytesAt w3 (fun _ => True) (.slice ta (tb j).length tc) (tb j) := by rw [← htx]; exact (HI.out.text j hjl).keep (fun k _ hk => hbw3.block k hk) hbw3.size
            have c1 := HE1.out
            rw [htx, ← hbw3.cell (p := ⟨eb, eo + j * 3 + 1, none⟩) heb] at c1
            have HB3 := hide hB3
            have HBT3 := hide hbt3
            have HBW3 := hide hbw3
            clear hr3 hg3 hz3 hB3 hbt3 hbw3 HB2 HR2 HT2' HNB hbw
            go_wp2_with fail
            refine (clone _ (tb j) _ w3 HBT3.out (by omega)).mono ?_
            rintro e w4 ⟨v4, rfl, hcl⟩
            obtain ⟨a4, rfl, hn4⟩ := hcl.full
            have hB4 := HB3.out.keep hcl.below
            have hsz4 := hB4.size
            have HT4 := hide (hcl.at'.sub (T' := fun k => w1.heap.size + 3 ≤ k) (fun k hk _ => by have := HB3.out.size; rw [hk]; exact this))
            have HT4' := hide (HT3.out.keep (w' := w4) (fun k _ hk => hcl.below.block k hk) hcl.below.size)
            have HNB4 := hide ((hcl.below.block w2.heap.size hw2l).trans HNB3.out)
            have hw2l4 : w2.heap.size < w4.heap.size := Nat.lt_of_lt_of_le hw2l hcl.below.size
            have HR4 := hide (hB4.pcs.same (w' := w4.alloc (.cells #[.slice a4 (tb j).length (tb j).length] 22)) (Go.heap_alloc_old w4 _ (by omega)))
            have HB4 := hide hB4
            clear hcl hB4 HB3 HBT3 HBW3 HT3 hn4 HNB3
            go_wp2_with (at_builtin; refine wpList_append_piece rfl (.tmp 215) (.tmp 221) rfl (w1.heap.size + 2) k j w4.heap.size P (.slice a4 (tb j).length (tb j).length) rfl HR4.out hjl rfl (by simp) rfl ?_)
            intro w5 hr5 hg5 hz5
            have HB5 := hide ((HB4.out.keep ((Below.refl _ _).alloc (Nat.le_refl _) (.cells #[.slice a4 (tb j).length (tb j).length] 22))).pushP hr5 hg5
              (.inr (.inl ⟨w2.heap.size, .slice a2 (tb j).length (tb j).length, by simp [upd], by simp [upd], by simp [cc, m1], hsz2, (Go.heap_alloc_old w4 _ hw2l4).trans HNB4.out, by
                have e : BB kd tb sl sb j = tb j := by simp [BB, m1]
                rw [e]
                exact HT4'.out.keep (fun k _ hk => Go.heap_alloc_old w4 _ hk) (by simp)⟩))
              (by
                have e : BB kd tb sl sb j = tb j := by simp [BB, m1]
                rw [e]
                exact HT4.out.keep (fun k _ hk => Go.heap_alloc_old w4 _ hk) (by simp))
              (fun h => by rw [m1] at h; cases h))
            clear hr5 hg5 hz5 HB4 HR4 HT4 HT4' HNB4
            go_wp2
            go_roundw
            case rel => exact ⟨j + 1, _, _, _, by omega, by go_num, by simp [csum, cc, m1], rfl, rfl, HB5.out⟩
            case measure => simp [intOf]; omega
          · have hl0 := HL.out j hjl
            simp only [wt] at hl0
            have hslj : sl j ≤ 1048576 := by omega
            have hm54 := fun w => mk54 (sl j) hslj w
            have hm50 := fun w => mk50 (sl j) hslj w
            have HE2 := hide e2
            have HB0 := hide hB
            have hszr := hB.size
            clear hel e0 e1 e2 hB hmk54 hmk50 HCS
            rename World => wo
            have hebo : eb < wo.heap.size := Nat.lt_of_lt_of_le heb hbw.size
            have hebo' : eb < wo.heap.size + 1 := by omega
            go_wp2
            have M2 := hide m2
            clear m2
            go_loopw [14, 15, 142] (fun vs vq i wx => ∃ (t : Nat) (A' P' : Nat → Value), t ≤ sl j ∧ i = .int .i64 t ∧ vs = .slice (some ⟨wo.heap.size, 0, none⟩) t (sl j) ∧ vq = .slice (some ⟨wo.heap.size + 1, 0, none⟩) t (sl j) ∧ SBld wo wx (sl j) t t A' P' (sb j)) (fun _ _ i _ => sl j - (intOf i).toNat)
            case atStart =>
              exact ⟨0, fun _ => .nilIface, fun _ => .nilIface, Nat.zero_le _, rfl, by simp, by simp, SBld.made wo (sl j) _ _ _⟩
            case round =>
              obtain ⟨t, A', P', ht, rfl, rfl, rfl, hS⟩ := hrel
              by_cases htl : t < sl j
              · obtain ⟨b2, o2, esa, hb2, hsx⟩ := HI.out.sub j hjl (by omega)
                obtain ⟨d1, d2⟩ := hsx t htl
                obtain ⟨xa, xc, ex⟩ := d2.shape
                have hbx : Below w.heap.size w wr := hbw.trans (hS.below.mono hbw.size)
                have hsz := hS.size
                have c2 := HE2.out
                have d1' := d1
                rw [← hbx.cell (p := ⟨eb, eo + j * 3 + 2, none⟩) heb, esa] at c2
                rw [ex, ← hbx.cell (p := ⟨b2, o2 + t, none⟩) hb2] at d1'
                have hst := sumTo_term (fun t => (sb j t).length) (sl j) t htl
                have hbt : BytesAt wr (fun _ => True) (.slice xa (sb j t).length xc) (sb j t) := by rw [← ex]; exact d2.keep (fun k _ hk => hbx.block k hk) hbx.size
                have HD1 := hide d1
                have HD2 := hide d2
                have ESA := hide esa
                have EX := hide ex
                clear d1 d2 hsx esa ex
                go_wp2_with fail
                refine (clone _ (sb j t) _ wr hbt (by omega)).mono ?_
                rintro e w2 ⟨v2, rfl, hcl⟩
                obtain ⟨a2, rfl, hn2⟩ := hcl.full
                have hS2 := hS.keep hcl.below
                have hsz2 := hS2.size
                have HT2 := hide (hcl.at'.sub (T' := fun k => wo.heap.size + 2 ≤ k) (fun k hk _ => by rw [hk]; exact hsz))
                have HR2 := hide (hS2.arr.same (w' := w2.alloc (.cells #[.slice a2 (sb j t).length (sb j t).length, .nilIface] 43)) (Go.heap_alloc_old w2 _ (by omega)))
                have HS2 := hide hS2
                clear hcl hS hS2 hbt hn2 c2 d1'
                go_wp2_with (at_builtin; refine wpList_append_pair rfl (.tmp 145) (.tmp 155) rfl wo.heap.size (sl j) t w2.heap.size A' (fun _ => .nilIface) (.slice a2 (sb j t).length (sb j t).length) .nilIface rfl HR2.out htl rfl (by simp) (by simp) rfl rfl ?_)
                intro w3 hr3 hg3 hz3
                have hS3 := (HS2.out.keep ((Below.refl _ _).alloc (Nat.le_refl _) (.cells #[.slice a2 (sb j t).length (sb j t).length, .nilIface] 43))).pushA hr3 hg3 (HT2.out.keep (fun k _ hk => Go.heap_alloc_old w2 _ hk) (by simp))
                have hbx3 : Below w.heap.size w w3 := hbw.trans (hS3.below.mono hbw.size)
                have c2 := HE2.out
                have d1' := HD1.out
                rw [← hbx3.cell (p := ⟨eb, eo + j * 3 + 2, none⟩) heb, ESA.out] at c2
                rw [EX.out, ← hbx3.cell (p := ⟨b2, o2 + t, none⟩) hb2] at d1'
                have hbt3 : BytesAt w3 (fun _ => True) (.slice xa (sb j t).length xc) (sb j t) := by rw [← EX.out]; exact HD2.out.keep (fun k _ hk => hbx3.block k hk) hbx3.size
                have HS3 := hide hS3
                have HBT3 := hide hbt3
                clear hr3 hg3 hz3 hS3 hbt3 hbx3 HS2 HR2 HT2 hbx
                go_wp2_with fail
                refine (clone _ (sb j t) _ w3 HBT3.out (by omega)).mono ?_
                rintro e w4 ⟨v4, rfl, hcl⟩
                obtain ⟨a4, rfl, hn4⟩ := hcl.full
                have hS4 := HS3.out.keep hcl.below
                have hsz4 := hS4.size
                have HT4 := hide (hcl.at'.sub (T' := fun k => wo.heap.size + 2 ≤ k) (fun k hk _ => by have := HS3.out.size; rw [hk]; exact this))
                have HR4 := hide (hS4.pcs.same (w' := w4.alloc (.cells #[.slice a4 (sb j t).length (sb j t).length] 22)) (Go.heap_alloc_old w4 _ (by omega)))
                have HS4 := hide hS4
                clear hcl hS4 HS3 HBT3 hn4
                go_wp2_with (at_builtin; refine wpList_append_piece rfl (.tmp 157) (.tmp 166) rfl (wo.heap.size + 1) (sl j) t w4.heap.size P' (.slice a4 (sb j t).length (sb j t).length) rfl HR4.out htl rfl (by simp) rfl ?_)
                intro w5 hr5 hg5 hz5
                have HS5 := hide ((HS4.out.keep ((Below.refl _ _).alloc (Nat.le_refl _) (.cells #[.slice a4 (sb j t).length (sb j t).length] 22))).pushP hr5 hg5 (HT4.out.keep (fun k _ hk => Go.heap_alloc_old w4 _ hk) (by simp)))
                clear hr5 hg5 hz5 HS4 HR4 HT4
                go_wp2
                go_roundw
                case rel => exact ⟨t + 1, _, _, by omega, by go_num, rfl, rfl, HS5.out⟩
                case measure => simp [intOf]; omega
              · have hts : t = sl j := by omega
                subst hts
                have hsz := hS.size
                have hBx := HB0.out.keep hS.below
                have HA2 := hide (hBx.keep ((Below.refl _ _).alloc (Nat.le_refl _) (.cells #[.slice none 0 0, .iface 54 (.slice (some ⟨wo.heap.size, 0, none⟩) (sl j) (sl j))] 43)))
                have HS2 := hide (hS.keep ((Below.refl _ _).alloc (Nat.le_refl _) (.cells #[.slice none 0 0, .iface 54 (.slice (some ⟨wo.heap.size, 0, none⟩) (sl j) (sl j))] 43)))
                have HR2 := hide HA2.out.arr
                clear hS hBx HB0 hm54 hm50
                rename World => wz
                go_wp2_with (at_builtin; refine wpList_append_pair rfl (.tmp 169) (.tmp 173) rfl (w1.heap.size + 1) k j wz.heap.size A N (.slice none 0 0) (.iface 54 (.slice (some ⟨wo.heap.size, 0, none⟩) (sl j) (sl j))) rfl HR2.out hjl rfl (by simp) (by simp) rfl rfl ?_)
                intro w3 hr3 hg3 hz3
                have hB3 := HA2.out.pushA hr3 hg3
                have hkeep : ∀ kk, wo.heap.size ≤ kk → kk < (wz.alloc (.cells #[.slice none 0 0, .iface 54 (.slice (some ⟨wo.heap.size, 0, none⟩) (sl j) (sl j))] 43)).heap.size → w3.heap[kk]? = (wz.alloc (.cells #[.slice none 0 0, .iface 54 (.slice (some ⟨wo.heap.size, 0, none⟩) (sl j) (sl j))] 43)).heap[kk]? := fun kk h1 h2 => hg3.block kk h2 (by simp; omega)
                have hArr := HS2.out.arr.same (hkeep wo.heap.size (by omega) HS2.out.arr.lt)
                have hPcs := HS2.out.pcs.same (hkeep (wo.heap.size + 1) (by omega) HS2.out.pcs.lt)
                have hElA : ∀ t, t < sl j → BytesAt w3 (fun k => wo.heap.size + 2 ≤ k) (A' t) (sb j t) := fun t ht => (HS2.out.elA t ht).keep (fun k hk hl => hkeep k (by omega) hl) hg3.size
                have hElP : ∀ t, t < sl j → BytesAt w3 (fun k => wo.heap.size + 2 ≤ k) (P' t) (sb j t) := fun t ht => (HS2.out.elP t ht).keep (fun k hk hl => hkeep k (by omega) hl) hg3.size
                have HB3 := hide hB3
                have HArr := hide hArr
                have HElA := hide hElA
                have HWR := hide (wrap (wo.heap.size + 1) (sl j) (sl j) P' (sb j) _ w3 hslj (fun t ht => ⟨hPcs.cell t ht, hElP t ht⟩) (by rw [fc_len]; omega))
                have hw3 : wo.heap.size < w3.heap.size := hArr.lt
                clear hr3 hg3 hz3 hB3 hkeep hArr hPcs hElA hElP HA2 HS2 HR2
                go_wp2_with (go_at_call 13; refine HWR.out.mono ?_)
                rintro e w4 ⟨v4, rfl, ho4, hb4⟩
                have hB4 := HB3.out.keep hb4
                have hsz4 := hB4.size
                have hT4 : BytesAt w4 (fun k => w1.heap.size + 3 ≤ k) v4 (arr (sb j) (sl j)) := BytesAt.ofOwns ho4 rfl (fun k hk _ => by have := HB3.out.size; omega)
                obtain ⟨a4, c4, e4⟩ := hT4.shape
                subst e4
                have HT4 := hide hT4
                have HArr4 := hide (HArr.out.same (hb4.block _ hw3))
                have HElA4 : Hid (∀ t, t < sl j → BytesAt w4 (fun k => w1.heap.size + 3 ≤ k) (A' t) (sb j t)) := fun t ht => ((HElA.out t ht).keep (fun k _ hk => hb4.block k hk) hb4.size).sub (fun k hk _ => by omega)
                have HR4 := hide (hB4.pcs.same (w' := w4.alloc (.cells #[.slice a4 (arr (sb j) (sl j)).length c4] 22)) (Go.heap_alloc_old w4 _ (by omega)))
                have HB4 := hide hB4
                have hw4 : wo.heap.size < w4.heap.size := Nat.lt_of_lt_of_le hw3 hb4.size
                clear ho4 hb4 hB4 hT4 HB3 HArr HElA HWR
                go_wp2_with (at_builtin; refine wpList_append_piece rfl (.tmp 175) (.tmp 178) rfl (w1.heap.size + 2) k j w4.heap.size P (.slice a4 (arr (sb j) (sl j)).length c4) rfl HR4.out hjl rfl (by simp) rfl ?_)
                intro w5 hr5 hg5 hz5
                have HB5 := hide ((HB4.out.keep ((Below.refl _ _).alloc (Nat.le_refl _) (.cells #[.slice a4 (arr (sb j) (sl j)).length c4] 22))).pushP hr5 hg5
                  (.inr (.inr ⟨wo.heap.size, sl j, sl j, A', sb j, by simp [upd], by simp [upd], by simp [cc, M2.out], hslj, hszr, fun t ht => by
                    obtain ⟨g1, g2⟩ := HArr4.out.cell t ht
                    refine ⟨?_, ?_, (HElA4.out t ht).keep (fun k _ hk => Go.heap_alloc_old w4 _ hk) (by simp)⟩
                    · rw [World.cell?_alloc_past _ _ _ hw4]; exact g1
                    · rw [World.cell?_alloc_past _ _ _ hw4]; exact g2, by simp [BB, M2.out]⟩))
                  (by
                    have e : BB kd tb sl sb j = arr (sb j) (sl j) := by simp [BB, M2.out]
                    rw [e]
                    exact HT4.out.keep (fun k _ hk => Go.heap_alloc_old w4 _ hk) (by simp))
                  (fun h => by rw [M2.out] at h; cases h))
                clear hr5 hg5 hz5 HB4 HR4 HT4 HArr4 HElA4
                go_wp2
                go_roundw
                case rel => exact ⟨j + 1, _, _, _, by omega, by go_num, by simp [csum, cc, M2.out], rfl, rfl, HB5.out⟩
                case measure => simp [intOf]; omega
        · have hjk : j = k := by omega
          subst hjk
          have hbw : Below w.heap.size w wr := hb.trans (hB.below.mono hb.size)
          have hC := hb.size
          have hsz := hB.size
          have hD0 : BytesAt wr (fun k => k < w.heap.size) (.slice da db.length dc) db := (HD.out.sub (T' := fun k => k < w.heap.size) (fun k _ hk => hk)).keep (fun k hk _ => hbw.block k hk) hbw.size
          have HBl := hide (BB_len kd tb sl sb db.length j HTOT.out)
          clear hmk54 hmk50 HCS
          go_wp2_with fail
          refine (clone _ db _ wr hD0 (by omega)).mono ?_
          rintro e wa ⟨va, rfl, hcl⟩
          obtain ⟨a5, rfl, hn5⟩ := hcl.full
          have hBa := hB.keep hcl.below
          have hsza := hcl.below.size
          have hDa : BytesAt wa (fun k => k < w.heap.size) (.slice da db.length dc) db := hD0.keep (fun k hk _ => hcl.below.block k (by have := hbw.size; omega)) hsza
          have hda : BytesAt wa (fun k => k ≠ w1.heap.size ∧ k < wa.heap.size) (.slice a5 db.length db.length) db := hcl.at'.sub (fun k hk hl => ⟨by omega, hl⟩)
          have hbwa : Below w.heap.size w wa := hbw.trans (hcl.below.mono (by omega))
          have hst : St w1.heap.size wa 0 wa := ⟨rfl, rfl, rfl, Nat.le_refl _, fun _ _ _ => rfl, hBa.ctr, by omega⟩
          have HA := hide (arrJSON w1.heap.size (w1.heap.size + 1) j j wa A N (BB kd tb sl sb) (cc kd) (fun _ => by omega) (fun t ht => hBa.arr.cell t ht) (fun t ht => (hBa.el t ht).1.one) (fun t ht => (hBa.el t ht).1.ok (fun k hk => by omega)) wa (.slice a5 db.length db.length) db.length db 0 hst (.inr ⟨a5, _, rfl, rfl, hda⟩) (by have := HBl.out.2; omega) (by omega) (by have := HBl.out.1; omega) p2)
          have HBa := hide hBa
          have HDa := hide hDa
          have Hda := hide hda
          have HBW := hide hbwa
          clear hcl hB hBa hD0 hDa hda hbwa hst hn5 hbw
          go_wp2_with (go_at_call 14; refine HA.out.mono ?_)
          rintro e w6 ⟨v6, rfl, ho6, hs6⟩
          have hsz6 := hs6.size
          have hkeep6 : ∀ kk, kk < wa.heap.size → kk ≠ w1.heap.size → w6.heap[kk]? = wa.heap[kk]? := hs6.block
          have hctr6 := hs6.ctr
          have hG6 : BytesAt w6 (fun k => wa.heap.size ≤ k) v6 (db ++ arr (BB kd tb sl sb) j) := BytesAt.ofOwns ho6 (by simp) (fun k hk _ => hk)
          have hD6 : BytesAt w6 (fun k => k < w.heap.size) (.slice da db.length dc) db := HDa.out.keep (fun k hk hl => hkeep6 k hl (by omega)) hsz6
          have hd6 : BytesAt w6 (fun k => k ≠ w1.heap.size ∧ k < wa.heap.size) (.slice a5 db.length db.length) db := Hda.out.keep (fun k hk hl => hkeep6 k hl hk.1) hsz6
          have hA6 : PairsRow w6 (w1.heap.size + 1) j j A N := HBa.out.arr.same (hkeep6 _ (by omega) (by omega))
          have hP6 : OneRow w6 (w1.heap.size + 2) j j P := HBa.out.pcs.same (hkeep6 _ (by omega) (by omega))
          have hE6 : ∀ t, t < j → BytesAt w6 (fun k => w1.heap.size + 3 ≤ k) (P t) (BB kd tb sl sb t) ∧ (kd t % 3 = 0 → BytesAt w6 (fun k => w1.heap.size + 3 ≤ k) (A t) (tb t)) := fun t ht => by
            refine ⟨(HBa.out.el t ht).2.1.keep (fun k hk hl => hkeep6 k hl (by omega)) hsz6, fun hz => ?_⟩
            have hN := (HBa.out.el t ht).2.2 hz
            have e : BB kd tb sl sb t = tb t := by simp [BB, hz]
            rcases (HBa.out.el t ht).1 with ⟨_, _, h3⟩ | ⟨nb, tv, _, h2, _⟩ | ⟨sb', k', cap', tv, sf, _, h2, _⟩
            · rw [e] at h3; exact h3.keep (fun k hk hl => hkeep6 k hl (by omega)) hsz6
            · rw [hN] at h2; cases h2
            · rw [hN] at h2; cases h2
          have hbw6 : Below w.heap.size w w6 := HBW.out.trans ⟨hs6.os, hs6.tape, hs6.output, hsz6, fun k hk => hkeep6 k (by have := HBW.out.size; omega) (by omega)⟩
          have Ho6 := hide ho6
          have HG6 := hide hG6
          have Hd6 := hide hd6
          have HA6 := hide hA6
          have HP6 := hide hP6
          have HE6 := hide hE6
          have HW6 := hide hbw6
          have HC6 : Hid (w6.heap[w1.heap.size]? = some (.cells #[.int .i64 (csum (cc kd) j : Int)] 3 (0, 0))) := by show _ = _; rw [hctr6]; simp
          clear ho6 hs6 hkeep6 hctr6 hG6 hd6 hA6 hP6 hE6 hbw6 HA HBa HDa Hda HBW
          go_wp2_with fail
          refine (clone _ db _ w6 hD6 (by omega)).mono ?_
          rintro e w7 ⟨v7, rfl, hcl⟩
          obtain ⟨a7, rfl, hn7⟩ := hcl.full
          have hb7 := hcl.below
          have hsz7 := hb7.size
          have Hv7 := hide hcl.at'
          have HD7 := hide (hD6.below hb7)
          have hP7 : OneRow w7 (w1.heap.size + 2) j j P := HP6.out.same (hb7.block _ (by omega))
          have HWR := hide (wrap (w1.heap.size + 2) j j P (BB kd tb sl sb) _ w7 p2 (fun t ht => ⟨hP7.cell t ht, (HE6.out t ht).1.below hb7⟩) (by have := HBl.out.2.2; omega))
          have Hb7 := hide hb7
          clear hcl hb7 hn7 hP7 hD6
          go_wp2_with (go_at_call 13; refine HWR.out.mono ?_)
          rintro e w8 ⟨v8, rfl, ho8, hb8⟩
          have hsz8 := hb8.size
          have hS8 : BytesAt w8 (fun _ => True) v8 (arr (BB kd tb sl sb) j) := BytesAt.ofOwns ho8 rfl (fun _ _ _ => trivial)
          have HS8 := hide hS8
          have HD8 : Hid (Dst w8 w8.heap.size (.slice a7 db.length db.length) db.length db) := .inr ⟨a7, _, rfl, rfl, Hv7.out.below hb8⟩
          have Hb8 := hide hb8
          have hal : 0 < (arr (BB kd tb sl sb) j).length := by simp [arr]
          have hal2 := HBl.out.2.1
          clear ho8 hb8 hS8 HWR
          go_wp2_with (at_builtin; refine wpList_append_dst rfl (.tmp 230) (.tmp 232) rfl w8.heap.size _ db.length db rfl HD8.out _ _ _ rfl HS8.out.src hal (Nat.le_refl _) (by omega) ?_)
          intro w9v w9 hown9 row hg9 hrow9
          have hb9 : Below w8.heap.size w8 w9 := (Below.refl _ _).grown hg9 (Nat.le_refl _) hrow9
          have hb69 : Below w6.heap.size w6 w9 := (Hb7.out.trans (Hb8.out.mono hsz7)).trans (hb9.mono (by omega))
          have hsz9 := hb69.size
          have hW9 : BytesAt w9 (fun _ => True) w9v (db ++ arr (BB kd tb sl sb) j) := BytesAt.ofOwns (by rw [← bcells_append] at hown9; exact hown9) (by simp) (fun _ _ _ => trivial)
          have E1 := hide (equal v6 w9v _ w9 _ _ (HG6.out.below hb69) hW9)
          have E2 := hide (equal (.slice a5 db.length db.length) (.slice da db.length dc) db w9 _ _ (Hd6.out.below hb69) ((HD7.out.below Hb8.out).below hb9))
          have e3 : w9.cell? ⟨w1.heap.size, 0, none⟩ = some (.int .i64 (csum (cc kd) j : Int)) := by
            rw [hb69.cell (p := ⟨w1.heap.size, 0, none⟩) (by simp; omega), cell_of_row w6 _ 0 _ 3 _ HC6.out]; rfl
          have HA9 := hide (HA6.out.same (hb69.block _ (by omega)))
          have HE9 : Hid (∀ t, t < j → kd t % 3 = 0 → BytesAt w9 (fun k => w1.heap.size + 3 ≤ k) (A t) (tb t)) := fun t ht hz => ((HE6.out t ht).2 hz).below hb69
          have HW9 := hide (HW6.out.trans (hb69.mono (by have := HW6.out.size; omega)))
          clear hown9 hg9 hrow9 hb9 hb69 hW9 HS8 HD8 Hb8 Hb7 Hv7 HD7 Ho6 HG6 Hd6 HA6 HP6 HE6 HW6 HC6
          go_wp2_with fail
          refine E1.out.mono ?_
          rintro e w9' ⟨rfl, rfl⟩
          go_wp2_with fail
          refine E2.out.mono ?_
          rintro e w9' ⟨rfl, rfl⟩
          go_wp2
          go_loopw [256] (fun i wx => ∃ t : Nat, t ≤ j ∧ i = .int .i64 t ∧ Below w9.heap.size w9 wx) (fun i _ => j - (intOf i).toNat)
          case atStart => exact ⟨0, Nat.zero_le _, rfl, Below.refl _ _⟩
          case round =>
            obtain ⟨t, ht, rfl, hbx⟩ := hrel
            by_cases htl : t < j
            · obtain ⟨eb, eo, rfl, heb, hel⟩ := HI.out.elem (by omega)
              obtain ⟨e0, e1, e2⟩ := hel t htl
              obtain ⟨ta, tc, htx⟩ := (HI.out.text t htl).shape
              have hbw : Below w.heap.size w wr := HW9.out.trans (hbx.mono (by have := HW9.out.size; omega))
              rw [← hbw.cell (p := ⟨eb, eo + t * 3, none⟩) heb] at e0
              rw [htx, ← hbw.cell (p := ⟨eb, eo + t * 3 + 1, none⟩) heb] at e1
              obtain ⟨c0, c1⟩ := HA9.out.cell t htl
              rw [← hbx.cell (p := ⟨w1.heap.size + 1, t * 2, none⟩) (by simp; omega)] at c0
              obtain ⟨kd0, kd1⟩ := HI.out.kind t htl
              rcases (show kd t % 3 = 0 ∨ kd t % 3 ≠ 0 by omega) with m0 | m0
              · have m0' : (kd t % 3 == 0) = true := by rw [m0]; rfl
                have hAt := HE9.out t htl m0
                obtain ⟨aa, ac, hAs⟩ := hAt.shape
                rw [hAs] at c0
                have EQ : Hid (∀ nn, Calls Yba.prog 10 #[.slice aa (tb t).length ac, .slice ta (tb t).length tc] (wr.drewN nn) fun e w' => e = .returned (.bool true) ∧ w' = wr.drewN nn) := fun nn => by
                  refine (equal _ _ (tb t) (wr.drewN nn) (fun k => w1.heap.size + 3 ≤ k) (fun _ => True) ?_ ?_).mono fun _ _ h => ⟨h.1, h.2.symm⟩
                  · rw [← hAs]; exact hAt.keep (fun k _ hk => hbx.block k hk) hbx.size
                  · rw [← htx]; exact (HI.out.text t htl).keep (fun k _ hk => hbw.block k hk) hbw.size
                clear hel e2 c1 hAt hAs htx hbw e3 m0
                go_wp2
                go_quiet ((go_at_call 10; exact Calls.quiet_of_same (EQ.out _)))
                go_wp2
                exact ⟨⟨t + 1, by omega, by go_num, below_drewN hbx _⟩, by simp [intOf]; omega⟩
              · have m0' : (kd t % 3 == 0) = false := by simp [m0]
                clear hel e2 c1 htx hbw e3 m0
                go_wp2
                go_quiet (fail)
                go_wp2
                exact ⟨⟨t + 1, by omega, by go_num, below_drewN hbx _⟩, by simp [intOf]; omega⟩
            · go_wp2
              go_ret
              exact ⟨rfl, HW9.out.trans (hbx.mono (by have := HW9.out.size; omega))⟩
end Go.Proofs.Ybulkefta
