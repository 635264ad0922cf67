import Derived.Test.YbulkefucRows
import Derived.WalkKit
import Derived.WalkSpells
import Derived.WalkLawsBesides
import Derived.Below
namespace Go.Proofs.Ybulkefuc
open Go.RowKit

theorem hide {p : Prop} (h : p) : Hid p := h

/-- a letter or a digit of ASCII -/
def alB (n : Int) : Bool := decide (97 ≤ n ∧ n ≤ 122) || decide (65 ≤ n ∧ n ≤ 90) || decide (48 ≤ n ∧ n ≤ 57)
/-- .. or a hyphen or a dot -/
def okB (n : Int) : Bool := alB n || decide (n = 45) || decide (n = 46)
/-- a host name -/
def modB (s : ByteArray) : Bool := decide (1 ≤ s.size ∧ s.size ≤ 253) && s.data.toList.all (fun c => okB c.toNat)

theorem okB_iff (n : Int) : okB n = true ↔ (97 ≤ n ∧ n ≤ 122) ∨ (65 ≤ n ∧ n ≤ 90) ∨ (48 ≤ n ∧ n ≤ 57) ∨ n = 45 ∨ n = 46 := by
  simp only [okB, alB, Bool.or_eq_true, decide_eq_true_eq]; omega
theorem alB_iff (n : Int) : alB n = true ↔ (97 ≤ n ∧ n ≤ 122) ∨ (65 ≤ n ∧ n ≤ 90) ∨ (48 ≤ n ∧ n ≤ 57) := by
  simp only [alB, Bool.or_eq_true, decide_eq_true_eq]; omega
theorem ret_bool {a b : Bool} (h : a = b) : Ending.returned (.bool a) = .returned (.bool b) := by rw [h]

set_option maxHeartbeats 400000 in
theorem alnum (n : Int) (w : World) : Calls Yba.prog 8 #[.int .u8 n] w fun e w' => e = .returned (.bool (alB n)) ∧ w = w' := by
  by_cases c1 : 97 ≤ n <;> by_cases c2 : n ≤ 122 <;> by_cases c3 : 65 ≤ n <;> by_cases c4 : n ≤ 90 <;> by_cases c5 : 48 ≤ n <;> by_cases c6 : n ≤ 57 <;> first | omega | skip
  all_goals
    have e := alB_iff n
    first
    | (have e1 : alB n = true := e.2 (by omega)
       rw [e1]; clear e e1
       go_enter Yba.func8, Yba.ntmps8
       go_wp2
       go_ret
       exact ⟨rfl, rfl⟩)
    | (have e1 : alB n = false := by rw [Bool.eq_false_iff]; intro h; have := e.1 h; omega
       rw [e1]; clear e e1
       go_enter Yba.func8, Yba.ntmps8
       go_wp2
       go_ret
       exact ⟨rfl, rfl⟩)

set_option maxHeartbeats 1000000 in
theorem okc (n : Int) (w : World) : Calls Yba.prog 9 #[.int .u8 n] w fun e w' => e = .returned (.bool (okB n)) ∧ w = w' := by
  rcases Bool.eq_false_or_eq_true (n == 45) with c7 | c7 <;> rcases Bool.eq_false_or_eq_true (n == 46) with c8 | c8
  all_goals
    by_cases c1 : 97 ≤ n <;> by_cases c2 : n ≤ 122 <;> by_cases c3 : 65 ≤ n <;> by_cases c4 : n ≤ 90 <;> by_cases c5 : 48 ≤ n <;> by_cases c6 : n ≤ 57
  all_goals
    have e := okB_iff n
    have i7 := c7
    have i8 := c8
    simp only [beq_iff_eq, beq_eq_false_iff_ne, ne_eq] at i7 i8
    first
    | omega
    | (have e1 : okB n = true := e.2 (by omega)
       rw [e1]; clear e e1 i7 i8
       go_enter Yba.func9, Yba.ntmps9
       go_wp2
       go_ret
       exact ⟨rfl, rfl⟩)
    | (have e1 : okB n = false := by rw [Bool.eq_false_iff]; intro h; have := e.1 h; omega
       rw [e1]; clear e e1 i7 i8
       go_enter Yba.func9, Yba.ntmps9
       go_wp2
       go_ret
       exact ⟨rfl, rfl⟩)

/-- every byte of the first k is one -/
def allTo (s : ByteArray) (k : Nat) : Prop := ∀ c ∈ s.data.toList.take k, okB c.toNat = true
theorem allTo_zero (s : ByteArray) : allTo s 0 := by intro c hc; simp at hc
theorem take_snoc (s : ByteArray) (k : Nat) (h : k < s.size) : s.data.toList.take (k + 1) = s.data.toList.take k ++ [s[k]] := by
  rw [List.take_succ_eq_append_getElem (by simpa using h)]; rfl
theorem allTo_succ {s : ByteArray} {k : Nat} (h : k < s.size) (ha : allTo s k) (hk : okB s[k].toNat = true) : allTo s (k + 1) := by
  intro c hc
  rw [take_snoc s k h] at hc
  rcases List.mem_append.1 hc with hc | hc
  · exact ha c hc
  · simp at hc; rw [hc]; exact hk
theorem modB_all {s : ByteArray} (h1 : 1 ≤ s.size) (h2 : s.size ≤ 253) (h : allTo s s.size) : modB s = true := by
  have e : s.data.toList.take s.size = s.data.toList := List.take_of_length_le (Nat.le_of_eq Array.length_toList)
  unfold allTo at h
  rw [e] at h
  simp only [modB, Bool.and_eq_true, decide_eq_true_eq, List.all_eq_true]
  exact ⟨⟨h1, h2⟩, h⟩
theorem modB_not {s : ByteArray} {k : Nat} (h : k < s.size) (hk : okB s[k].toNat = false) : modB s = false := by
  rw [Bool.eq_false_iff]
  intro hm
  simp only [modB, Bool.and_eq_true, decide_eq_true_eq, List.all_eq_true] at hm
  have := hm.2 s[k] (Array.mem_toList_iff.2 (Array.getElem_mem h))
  rw [hk] at this
  cases this
theorem modB_out {s : ByteArray} (h : ¬ (1 ≤ s.size ∧ s.size ≤ 253)) : modB s = false := by simp [modB, h]

set_option maxHeartbeats 1000000 in
theorem model (s : ByteArray) (w : World) (hs : s.size ≤ maxLen) : Calls Yba.prog 6 #[.string s] w fun e w' => e = .returned (.bool (modB s)) ∧ w = w' := by
  unfold maxLen at hs
  by_cases hin : 1 ≤ s.size ∧ s.size ≤ 253
  · obtain ⟨h1, h2⟩ := hin
    have h1' : ¬ ((s.size : Int) < 1) := by omega
    have h2' : ¬ ((253 : Int) < s.size) := by omega
    have d1 : decide ((s.size : Int) < 1) = false := by simp; omega
    have d2 : decide ((253 : Int) < s.size) = false := by simp; omega
    go_enter Yba.func6, Yba.ntmps6
    go_wp2
    go_loop [4] (fun i => ∃ k : Nat, k ≤ s.size ∧ i = .int .i64 k ∧ allTo s k) (fun i => s.size - (intOf i).toNat)
    case atStart => exact ⟨0, Nat.zero_le _, rfl, allTo_zero s⟩
    case round =>
      obtain ⟨k, hk, rfl, ha⟩ := hrel
      have HA := hide ha
      clear ha
      by_cases hlt : k < s.size
      · rcases Bool.eq_false_or_eq_true (okB s[k].toNat) with hb | hb
        · have HB := hide hb
          go_wp2_with (go_at_call 9; refine (okc _ _).mono ?_; rintro e w' ⟨rfl, rfl⟩)
          go_round
          case rel => exact ⟨k + 1, by omega, by go_num, allTo_succ hlt HA.out HB.out⟩
          case measure => simp [intOf]; omega
        · have HB := hide (modB_not hlt hb)
          go_wp2_with (go_at_call 9; refine (okc _ _).mono ?_; rintro e w' ⟨rfl, rfl⟩)
          go_ret
          exact ⟨by rw [HB.out]; rfl, rfl⟩
      · have hks : k = s.size := by omega
        have HB : Hid (modB s = true) := modB_all h1 h2 (by rw [← hks]; exact HA.out)
        clear hks
        go_wp2
        go_ret
        exact ⟨by rw [HB.out]; rfl, rfl⟩
  · have hm := modB_out hin
    rw [hm]
    by_cases h1 : (s.size : Int) < 1
    · go_enter Yba.func6, Yba.ntmps6
      go_wp2
      go_ret
      exact ⟨rfl, rfl⟩
    · have h2 : (253 : Int) < s.size := by omega
      go_enter Yba.func6, Yba.ntmps6
      go_wp2
      go_ret
      exact ⟨rfl, rfl⟩

/-- '[]byte(s)': a new row with the bytes. -/
theorem bytesOf (s : ByteArray) (w : World) : ∃ cap w2, (convert 9 23 (.string s)).run Yba.prog w = .ok (.slice (some ⟨w.heap.size, 0, none⟩) s.size cap) w2 ∧ Below w.heap.size w w2 ∧
    ∀ i (h : i < s.size), w2.cell? ⟨w.heap.size, i, none⟩ = some (.int .u8 s[i].toNat) := by
  refine ⟨_, _, run_bytes_of_string w 9 23 5 s Yba.underlying9 Yba.underlying23 Yba.underlying5, (Below.refl _ _).drew.alloc (Nat.le_refl _) _, fun i h => ?_⟩
  have := World.cell?_alloc_mark w.drew (bytesRow s (grownCap w s.size 0 5)) 5 ((bytesRow s (grownCap w s.size 0 5)).size, (bytesRow s (grownCap w s.size 0 5)).size + 1) i
  rw [show w.drew.heap.size = w.heap.size from rfl] at this
  rw [this]
  exact bytesRow_at s _ i h

set_option maxHeartbeats 1000000 in
theorem host (s : ByteArray) (w : World) (hs : s.size ≤ maxLen) : Calls Yba.prog 5 #[.string s] w fun e w' => e = .returned (.bool (modB s)) ∧ Below w.heap.size w w' := by
  unfold maxLen at hs
  have hel : s.toList.isEmpty = decide (s.size = 0) := by
    rw [ByteArray.toList_eq]
    have : s.size = s.data.toList.length := Array.length_toList.symm
    cases hl : s.data.toList <;> simp [this, hl]
  by_cases hin : 1 ≤ s.size ∧ s.size ≤ 253
  · obtain ⟨h1, h2⟩ := hin
    have he : s.toList.isEmpty = false := by rw [hel]; exact decide_eq_false (by omega)
    have hn : ¬ s.toList = [] := by intro h; rw [h] at he; cases he
    have h2' : ¬ ((253 : Int) < s.size) := by omega
    have d2 : decide ((253 : Int) < s.size) = false := by simp; omega
    obtain ⟨cap, w2, hcv, hb2, hc2⟩ := bytesOf s w
    have HC := hide hc2
    have HB := hide hb2
    clear hc2 hb2 hel
    go_enter Yba.func5, Yba.ntmps5
    go_wp2
    go_loop [15] (fun i => ∃ k : Nat, k ≤ s.size ∧ i = .int .i64 k ∧ allTo s k) (fun i => s.size - (intOf i).toNat)
    case atStart => exact ⟨0, Nat.zero_le _, rfl, allTo_zero s⟩
    case round =>
      obtain ⟨k, hk, rfl, ha⟩ := hrel
      have HA := hide ha
      clear ha
      by_cases hlt : k < s.size
      · have hck := HC.out k hlt
        have HOK := hide (okB_iff s[k].toNat)
        have HAL := hide (alB_iff s[k].toNat)
        have HSU := hide (fun h => allTo_succ hlt HA.out h)
        have HNO := hide (fun h => modB_not (s := s) hlt h)
        generalize (s[k].toNat : Int) = n at *
        rcases Bool.eq_false_or_eq_true (alB n) with a1 | a1 <;> rcases Bool.eq_false_or_eq_true (n == 45) with a2 | a2 <;> rcases Bool.eq_false_or_eq_true (n == 46) with a3 | a3
        all_goals
          have n2 : (n != 45) = !(n == 45) := rfl
          have n3 : (n != 46) = !(n == 46) := rfl
          rw [a2] at n2
          rw [a3] at n3
          simp only [Bool.not_true, Bool.not_false] at n2 n3
          have i2 := a2
          have i3 := a3
          have i1 : (97 ≤ n ∧ n ≤ 122) ∨ (65 ≤ n ∧ n ≤ 90) ∨ (48 ≤ n ∧ n ≤ 57) ∨ alB n = false := by
            rcases Bool.eq_false_or_eq_true (alB n) with h | h
            · have := HAL.out.1 h; omega
            · exact .inr (.inr (.inr h))
          simp only [beq_iff_eq, beq_eq_false_iff_ne, ne_eq] at i2 i3
          simp only [a1, Bool.true_eq_false, or_false, or_true] at i1
          first
          | (have e1 : okB n = true := HOK.out.2 (by omega)
             have HS := hide (HSU.out e1)
             clear i1 i2 i3 e1 HSU HNO
             go_wp2_with (go_at_call 8; refine (alnum _ _).mono ?_; rintro e w' ⟨rfl, rfl⟩)
             go_round
             case rel => exact ⟨k + 1, by omega, by go_num, HS.out⟩
             case measure => simp [intOf]; omega)
          | (have e1 : okB n = false := by rw [Bool.eq_false_iff]; intro h; have h1 := HOK.out.1 h; have h2 : ¬ alB n = true := (by rw [a1]; simp); rw [HAL.out] at h2; omega
             have HS := hide (HNO.out e1)
             clear i1 i2 i3 e1 HSU HNO
             go_wp2_with (go_at_call 8; refine (alnum _ _).mono ?_; rintro e w' ⟨rfl, rfl⟩)
             go_ret
             exact ⟨by rw [HS.out]; rfl, HB.out⟩)
      · have hks : k = s.size := by omega
        have HM : Hid (modB s = true) := modB_all h1 h2 (by rw [← hks]; exact HA.out)
        clear hks
        go_wp2
        go_ret
        exact ⟨by rw [HM.out]; rfl, HB.out⟩
  · have hm := modB_out hin
    rw [hm]
    by_cases h1 : s.size = 0
    · have he : s.toList.isEmpty = true := by rw [hel]; simp [h1]
      have hn : s.toList = [] := by simpa using he
      go_enter Yba.func5, Yba.ntmps5
      go_wp2
      go_ret
      exact ⟨rfl, Below.refl _ _⟩
    · have he : s.toList.isEmpty = false := by rw [hel]; exact decide_eq_false (by omega)
      have hn : ¬ s.toList = [] := by intro h; rw [h] at he; cases he
      have h2 : (253 : Int) < s.size := by omega
      go_enter Yba.func5, Yba.ntmps5
      go_wp2
      go_ret
      exact ⟨rfl, Below.refl _ _⟩
end Go.Proofs.Ybulkefuc
