import Derived.Test.Qxb6618103aRows
import Derived.Test.Qxb6618103aIdPlain
import Derived.WalkKit
import Derived.WalkSpells
import Derived.WalkLawsBesides
namespace Go.Proofs.Qxb6618103a.Idn
open Go.RowKit

theorem ret1 {x y : Bool} (h : x = y) : Ending.returned (.bool x) = .returned (.bool y) := by rw [h]

/-- The classes of bytes that decide every test. -/
theorem classes (c : UInt8) : ((c.toNat : Int) ≤ 45) ∨ (46 ≤ (c.toNat : Int) ∧ (c.toNat : Int) ≤ 46) ∨ (47 ≤ (c.toNat : Int) ∧ (c.toNat : Int) ≤ 47) ∨ (48 ≤ (c.toNat : Int) ∧ (c.toNat : Int) ≤ 57) ∨
    (58 ≤ (c.toNat : Int) ∧ (c.toNat : Int) ≤ 64) ∨ (65 ≤ (c.toNat : Int) ∧ (c.toNat : Int) ≤ 90) ∨ (91 ≤ (c.toNat : Int) ∧ (c.toNat : Int) ≤ 94) ∨ (95 ≤ (c.toNat : Int) ∧ (c.toNat : Int) ≤ 95) ∨
    (96 ≤ (c.toNat : Int) ∧ (c.toNat : Int) ≤ 96) ∨ (97 ≤ (c.toNat : Int) ∧ (c.toNat : Int) ≤ 122) ∨ (123 ≤ (c.toNat : Int)) := by omega

theorem letterB_eq (c : UInt8) : letterB c = decide ((97 ≤ (c.toNat : Int) ∧ (c.toNat : Int) ≤ 122) ∨ (65 ≤ (c.toNat : Int) ∧ (c.toNat : Int) ≤ 90)) := by
  rw [Bool.eq_iff_iff]; simp [letterB]; omega
theorem headB_eq (c : UInt8) : headB c = decide ((97 ≤ (c.toNat : Int) ∧ (c.toNat : Int) ≤ 122) ∨ (65 ≤ (c.toNat : Int) ∧ (c.toNat : Int) ≤ 90) ∨ (c.toNat : Int) = 95) := by
  rw [Bool.eq_iff_iff]; simp [headB, letterB]; omega
theorem tailB_eq (c : UInt8) : tailB c = decide ((97 ≤ (c.toNat : Int) ∧ (c.toNat : Int) ≤ 122) ∨ (65 ≤ (c.toNat : Int) ∧ (c.toNat : Int) ≤ 90) ∨ (c.toNat : Int) = 95 ∨ (c.toNat : Int) = 46 ∨ (48 ≤ (c.toNat : Int) ∧ (c.toNat : Int) ≤ 57)) := by
  rw [Bool.eq_iff_iff]; simp [tailB, headB, letterB]; omega

set_option maxHeartbeats 400000 in
theorem letter_any (c : UInt8) (w : World) :
    Calls Try.prog 24 #[.int .u8 (c.toNat : Int)] w fun e w' => e = .returned (.bool (letterB c)) ∧ w' = w := by
  rcases classes c with h | ⟨h, h'⟩ | ⟨h, h'⟩ | ⟨h, h'⟩ | ⟨h, h'⟩ | ⟨h, h'⟩ | ⟨h, h'⟩ | ⟨h, h'⟩ | ⟨h, h'⟩ | ⟨h, h'⟩ | h
  · have hv : Hid (letterB c = false) := by show _ = _; rw [letterB_eq]; exact decide_eq_false (by omega)
    go_enter Try.func24, Try.ntmps24
    go_wp2
    go_ret
    exact ⟨ret1 (by first | exact hv.out.symm | (rw [hv.out]; simp; omega)), rfl⟩
  · have hv : Hid (letterB c = false) := by show _ = _; rw [letterB_eq]; exact decide_eq_false (by omega)
    go_enter Try.func24, Try.ntmps24
    go_wp2
    go_ret
    exact ⟨ret1 (by first | exact hv.out.symm | (rw [hv.out]; simp; omega)), rfl⟩
  · have hv : Hid (letterB c = false) := by show _ = _; rw [letterB_eq]; exact decide_eq_false (by omega)
    go_enter Try.func24, Try.ntmps24
    go_wp2
    go_ret
    exact ⟨ret1 (by first | exact hv.out.symm | (rw [hv.out]; simp; omega)), rfl⟩
  · have hv : Hid (letterB c = false) := by show _ = _; rw [letterB_eq]; exact decide_eq_false (by omega)
    go_enter Try.func24, Try.ntmps24
    go_wp2
    go_ret
    exact ⟨ret1 (by first | exact hv.out.symm | (rw [hv.out]; simp; omega)), rfl⟩
  · have hv : Hid (letterB c = false) := by show _ = _; rw [letterB_eq]; exact decide_eq_false (by omega)
    go_enter Try.func24, Try.ntmps24
    go_wp2
    go_ret
    exact ⟨ret1 (by first | exact hv.out.symm | (rw [hv.out]; simp; omega)), rfl⟩
  · have hv : Hid (letterB c = true) := by show _ = _; rw [letterB_eq]; exact decide_eq_true (by omega)
    go_enter Try.func24, Try.ntmps24
    go_wp2
    go_ret
    exact ⟨ret1 (by first | exact hv.out.symm | (rw [hv.out]; simp; omega)), rfl⟩
  · have hv : Hid (letterB c = false) := by show _ = _; rw [letterB_eq]; exact decide_eq_false (by omega)
    go_enter Try.func24, Try.ntmps24
    go_wp2
    go_ret
    exact ⟨ret1 (by first | exact hv.out.symm | (rw [hv.out]; simp; omega)), rfl⟩
  · have hv : Hid (letterB c = false) := by show _ = _; rw [letterB_eq]; exact decide_eq_false (by omega)
    go_enter Try.func24, Try.ntmps24
    go_wp2
    go_ret
    exact ⟨ret1 (by first | exact hv.out.symm | (rw [hv.out]; simp; omega)), rfl⟩
  · have hv : Hid (letterB c = false) := by show _ = _; rw [letterB_eq]; exact decide_eq_false (by omega)
    go_enter Try.func24, Try.ntmps24
    go_wp2
    go_ret
    exact ⟨ret1 (by first | exact hv.out.symm | (rw [hv.out]; simp; omega)), rfl⟩
  · have hv : Hid (letterB c = true) := by show _ = _; rw [letterB_eq]; exact decide_eq_true (by omega)
    go_enter Try.func24, Try.ntmps24
    go_wp2
    go_ret
    exact ⟨ret1 (by first | exact hv.out.symm | (rw [hv.out]; simp; omega)), rfl⟩
  · have hv : Hid (letterB c = false) := by show _ = _; rw [letterB_eq]; exact decide_eq_false (by omega)
    go_enter Try.func24, Try.ntmps24
    go_wp2
    go_ret
    exact ⟨ret1 (by first | exact hv.out.symm | (rw [hv.out]; simp; omega)), rfl⟩

set_option maxHeartbeats 400000 in
theorem tail_any (c : UInt8) (w : World) :
    Calls Try.prog 25 #[.int .u8 (c.toNat : Int)] w fun e w' => e = .returned (.bool (tailB c)) ∧ w' = w := by
  rcases classes c with h | ⟨h, h'⟩ | ⟨h, h'⟩ | ⟨h, h'⟩ | ⟨h, h'⟩ | ⟨h, h'⟩ | ⟨h, h'⟩ | ⟨h, h'⟩ | ⟨h, h'⟩ | ⟨h, h'⟩ | h
  · have hv : Hid (tailB c = false) := by show _ = _; rw [tailB_eq]; exact decide_eq_false (by omega)
    have hl : letterB c = false := by show _ = _; rw [letterB_eq]; exact decide_eq_false (by omega)
    go_enter Try.func25, Try.ntmps25
    go_wp2_with (go_at_call 24; refine (letter_any c _).mono ?_; rintro e w' ⟨rfl, rfl⟩)
    go_ret
    exact ⟨ret1 (by first | exact hv.out.symm | (rw [hv.out]; simp; omega)), rfl⟩
  · have hv : Hid (tailB c = true) := by show _ = _; rw [tailB_eq]; exact decide_eq_true (by omega)
    have hl : letterB c = false := by show _ = _; rw [letterB_eq]; exact decide_eq_false (by omega)
    go_enter Try.func25, Try.ntmps25
    go_wp2_with (go_at_call 24; refine (letter_any c _).mono ?_; rintro e w' ⟨rfl, rfl⟩)
    go_ret
    exact ⟨ret1 (by first | exact hv.out.symm | (rw [hv.out]; simp; omega)), rfl⟩
  · have hv : Hid (tailB c = false) := by show _ = _; rw [tailB_eq]; exact decide_eq_false (by omega)
    have hl : letterB c = false := by show _ = _; rw [letterB_eq]; exact decide_eq_false (by omega)
    go_enter Try.func25, Try.ntmps25
    go_wp2_with (go_at_call 24; refine (letter_any c _).mono ?_; rintro e w' ⟨rfl, rfl⟩)
    go_ret
    exact ⟨ret1 (by first | exact hv.out.symm | (rw [hv.out]; simp; omega)), rfl⟩
  · have hv : Hid (tailB c = true) := by show _ = _; rw [tailB_eq]; exact decide_eq_true (by omega)
    have hl : letterB c = false := by show _ = _; rw [letterB_eq]; exact decide_eq_false (by omega)
    go_enter Try.func25, Try.ntmps25
    go_wp2_with (go_at_call 24; refine (letter_any c _).mono ?_; rintro e w' ⟨rfl, rfl⟩)
    go_ret
    exact ⟨ret1 (by first | exact hv.out.symm | (rw [hv.out]; simp; omega)), rfl⟩
  · have hv : Hid (tailB c = false) := by show _ = _; rw [tailB_eq]; exact decide_eq_false (by omega)
    have hl : letterB c = false := by show _ = _; rw [letterB_eq]; exact decide_eq_false (by omega)
    go_enter Try.func25, Try.ntmps25
    go_wp2_with (go_at_call 24; refine (letter_any c _).mono ?_; rintro e w' ⟨rfl, rfl⟩)
    go_ret
    exact ⟨ret1 (by first | exact hv.out.symm | (rw [hv.out]; simp; omega)), rfl⟩
  · have hv : Hid (tailB c = true) := by show _ = _; rw [tailB_eq]; exact decide_eq_true (by omega)
    have hl : letterB c = true := by show _ = _; rw [letterB_eq]; exact decide_eq_true (by omega)
    go_enter Try.func25, Try.ntmps25
    go_wp2_with (go_at_call 24; refine (letter_any c _).mono ?_; rintro e w' ⟨rfl, rfl⟩)
    go_ret
    exact ⟨ret1 (by first | exact hv.out.symm | (rw [hv.out]; simp; omega)), rfl⟩
  · have hv : Hid (tailB c = false) := by show _ = _; rw [tailB_eq]; exact decide_eq_false (by omega)
    have hl : letterB c = false := by show _ = _; rw [letterB_eq]; exact decide_eq_false (by omega)
    go_enter Try.func25, Try.ntmps25
    go_wp2_with (go_at_call 24; refine (letter_any c _).mono ?_; rintro e w' ⟨rfl, rfl⟩)
    go_ret
    exact ⟨ret1 (by first | exact hv.out.symm | (rw [hv.out]; simp; omega)), rfl⟩
  · have hv : Hid (tailB c = true) := by show _ = _; rw [tailB_eq]; exact decide_eq_true (by omega)
    have hl : letterB c = false := by show _ = _; rw [letterB_eq]; exact decide_eq_false (by omega)
    go_enter Try.func25, Try.ntmps25
    go_wp2_with (go_at_call 24; refine (letter_any c _).mono ?_; rintro e w' ⟨rfl, rfl⟩)
    go_ret
    exact ⟨ret1 (by first | exact hv.out.symm | (rw [hv.out]; simp; omega)), rfl⟩
  · have hv : Hid (tailB c = false) := by show _ = _; rw [tailB_eq]; exact decide_eq_false (by omega)
    have hl : letterB c = false := by show _ = _; rw [letterB_eq]; exact decide_eq_false (by omega)
    go_enter Try.func25, Try.ntmps25
    go_wp2_with (go_at_call 24; refine (letter_any c _).mono ?_; rintro e w' ⟨rfl, rfl⟩)
    go_ret
    exact ⟨ret1 (by first | exact hv.out.symm | (rw [hv.out]; simp; omega)), rfl⟩
  · have hv : Hid (tailB c = true) := by show _ = _; rw [tailB_eq]; exact decide_eq_true (by omega)
    have hl : letterB c = true := by show _ = _; rw [letterB_eq]; exact decide_eq_true (by omega)
    go_enter Try.func25, Try.ntmps25
    go_wp2_with (go_at_call 24; refine (letter_any c _).mono ?_; rintro e w' ⟨rfl, rfl⟩)
    go_ret
    exact ⟨ret1 (by first | exact hv.out.symm | (rw [hv.out]; simp; omega)), rfl⟩
  · have hv : Hid (tailB c = false) := by show _ = _; rw [tailB_eq]; exact decide_eq_false (by omega)
    have hl : letterB c = false := by show _ = _; rw [letterB_eq]; exact decide_eq_false (by omega)
    go_enter Try.func25, Try.ntmps25
    go_wp2_with (go_at_call 24; refine (letter_any c _).mono ?_; rintro e w' ⟨rfl, rfl⟩)
    go_ret
    exact ⟨ret1 (by first | exact hv.out.symm | (rw [hv.out]; simp; omega)), rfl⟩

theorem take_snoc (s : ByteArray) (k : Nat) (h : k < s.size) : s.data.toList.take (k + 1) = s.data.toList.take k ++ [s[k]] := by
  rw [List.take_succ_eq_append_getElem (by simpa using h)]; rfl

/-! ### allTailBytes -/
def atB (l : List UInt8) : Bool := l.all tailB
def TailTo (s : ByteArray) (k : Nat) : Prop := (s.data.toList.take k).all tailB = true
theorem tail_yes {s : ByteArray} {k : Nat} (h : k < s.size) (hc : tailB s[k] = true) (hT : TailTo s k) : TailTo s (k + 1) := by
  unfold TailTo at hT ⊢; rw [take_snoc s k h, List.all_append, hT]; simp [hc]
theorem tail_no {s : ByteArray} {k : Nat} (h : k < s.size) (hc : tailB s[k] = false) : atB s.data.toList = false := by
  unfold atB
  rw [List.all_eq_false]
  refine ⟨s[k], ?_, by simp [hc]⟩
  rw [show s[k] = s.data.toList[k]'(by simpa using h) from rfl]
  exact List.getElem_mem _
theorem tail_end {s : ByteArray} {k : Nat} (h : ¬ k < s.size) (hT : TailTo s k) : atB s.data.toList = true := by
  unfold atB
  unfold TailTo at hT; rwa [List.take_of_length_le (by simp; omega)] at hT

set_option maxHeartbeats 400000 in
theorem allTail_any (s : ByteArray) (w : World) (hs : s.size ≤ 4194304) :
    Calls Try.prog 16 #[.string s] w fun e w' => e = .returned (.bool (atB s.data.toList)) ∧ w' = w := by
  go_enter Try.func16, Try.ntmps16
  go_wp2
  go_loop [3] (fun i => ∃ k : Nat, k ≤ s.size ∧ i = .int .i64 k ∧ TailTo s k) (fun i => s.size - (intOf i).toNat)
  case atStart => exact ⟨0, by omega, rfl, rfl⟩
  case round =>
    obtain ⟨k, hk, rfl, hT⟩ := hrel
    by_cases hlt : k < s.size
    · cases hc : tailB s[k]
      · have hE : Hid (atB s.data.toList = false) := tail_no hlt hc
        go_wp2_with (go_at_call 25; refine (tail_any s[k] _).mono ?_; rintro e w' ⟨rfl, rfl⟩)
        go_ret
        exact ⟨ret1 hE.out.symm, rfl⟩
      · have hT' := tail_yes hlt hc hT
        go_wp2_with (go_at_call 25; refine (tail_any s[k] _).mono ?_; rintro e w' ⟨rfl, rfl⟩)
        go_round
        case rel => exact ⟨k + 1, by omega, by go_num, hT'⟩
        case measure => simp [intOf]; omega
    · have hE : Hid (atB s.data.toList = true) := tail_end hlt hT
      go_wp2
      go_ret
      exact ⟨ret1 hE.out.symm, rfl⟩

/-! ### isIdentifier -/
theorem list_data (s : ByteArray) : s.toList = s.data.toList := ByteArray.toList_eq s

def PreTo (s : ByteArray) (k : Nat) : Prop := preB (s.data.toList.take k) = true
theorem pre_snoc {s : ByteArray} {k : Nat} (h : k < s.size) (hP : PreTo s k) : preB (s.data.toList.take (k + 1)) = if k = 0 then headB s[k] else tailB s[k] := by
  have e := preB_take_succ s.data.toList k (by simpa using h)
  unfold PreTo at hP
  rw [e, hP, Bool.true_and]; rfl
theorem pre_head {s : ByteArray} {k : Nat} (h : k < s.size) (hc : headB s[k] = true) (hP : PreTo s k) : PreTo s (k + 1) := by
  have e := pre_snoc h hP
  unfold PreTo
  rw [e]; split
  · exact hc
  · simp [tailB, hc]
theorem pre_tail {s : ByteArray} {k : Nat} (h : k < s.size) (h0 : 0 < k) (hc : tailB s[k] = true) (hP : PreTo s k) : PreTo s (k + 1) := by
  have e := pre_snoc h hP
  unfold PreTo
  rw [e, if_neg (by omega)]; exact hc
theorem pre_no {s : ByteArray} {k : Nat} (h : k < s.size) (hc : tailB s[k] = false) (hP : PreTo s k) : idB s.data.toList = false := by
  have e := pre_snoc h hP
  have hh : headB s[k] = false := by
    cases hh : headB s[k]
    · rfl
    · simp [tailB, hh] at hc
  have : preB (s.data.toList.take (k + 1)) = false := by rw [e]; split <;> assumption
  simp [idB, preB_false _ _ this]
theorem pre_first {s : ByteArray} {k : Nat} (h : k < s.size) (h0 : k = 0) (hc : headB s[k] = false) (hP : PreTo s k) : idB s.data.toList = false := by
  have e := pre_snoc h hP
  have : preB (s.data.toList.take (k + 1)) = false := by rw [e, if_pos h0]; exact hc
  simp [idB, preB_false _ _ this]
theorem pre_end {s : ByteArray} {k : Nat} (h : ¬ k < s.size) (hP : PreTo s k) : idB s.data.toList = !s.data.toList.isEmpty := by
  unfold PreTo at hP; rw [List.take_of_length_le (by simp; omega)] at hP
  simp [idB, hP]

set_option maxHeartbeats 1000000 in
theorem ident_any (s : ByteArray) (w : World) (hs : s.size ≤ 4194304) :
    Calls Try.prog 23 #[.string s] w fun e w' => e = .returned (.bool (idB s.data.toList)) ∧ w' = w := by
  go_enter Try.func23, Try.ntmps23
  go_wp2
  go_loop [3] (fun i => ∃ k : Nat, k ≤ s.size ∧ i = .int .i64 k ∧ PreTo s k) (fun i => s.size - (intOf i).toNat)
  case atStart => exact ⟨0, by omega, rfl, rfl⟩
  case round =>
    obtain ⟨k, hk, rfl, hT⟩ := hrel
    by_cases hlt : k < s.size
    · rcases classes s[k] with h | ⟨h, h'⟩ | ⟨h, h'⟩ | ⟨h, h'⟩ | ⟨h, h'⟩ | ⟨h, h'⟩ | ⟨h, h'⟩ | ⟨h, h'⟩ | ⟨h, h'⟩ | ⟨h, h'⟩ | h
      · have hE : Hid (idB s.data.toList = false) := pre_no hlt (by show _ = _; rw [tailB_eq]; exact decide_eq_false (by omega)) hT
        by_cases h0 : 0 < k
        · have d1 : decide (48 ≤ (s[k].toNat : Int)) = false := decide_eq_false (by omega)
          go_wp2
          go_ret
          exact ⟨ret1 hE.out.symm, rfl⟩
        · have h0' : decide ((0 : Int) < (k : Int)) = false := decide_eq_false (by omega)
          go_wp2
          go_ret
          exact ⟨ret1 hE.out.symm, rfl⟩
      · by_cases h0 : 0 < k
        · have hT' := pre_tail hlt h0 (by show _ = _; rw [tailB_eq]; exact decide_eq_true (by omega)) hT
          have d1 : decide (48 ≤ (s[k].toNat : Int)) = false := decide_eq_false (by omega)
          go_wp2
          go_round
          case rel => exact ⟨k + 1, by omega, by go_num, hT'⟩
          case measure => simp [intOf]; omega
        · have hE : Hid (idB s.data.toList = false) := pre_first hlt (by omega) (by show _ = _; rw [headB_eq]; exact decide_eq_false (by omega)) hT
          have h0' : decide ((0 : Int) < (k : Int)) = false := decide_eq_false (by omega)
          go_wp2
          go_ret
          exact ⟨ret1 hE.out.symm, rfl⟩
      · have hE : Hid (idB s.data.toList = false) := pre_no hlt (by show _ = _; rw [tailB_eq]; exact decide_eq_false (by omega)) hT
        by_cases h0 : 0 < k
        · have d1 : decide (48 ≤ (s[k].toNat : Int)) = false := decide_eq_false (by omega)
          go_wp2
          go_ret
          exact ⟨ret1 hE.out.symm, rfl⟩
        · have h0' : decide ((0 : Int) < (k : Int)) = false := decide_eq_false (by omega)
          go_wp2
          go_ret
          exact ⟨ret1 hE.out.symm, rfl⟩
      · by_cases h0 : 0 < k
        · have hT' := pre_tail hlt h0 (by show _ = _; rw [tailB_eq]; exact decide_eq_true (by omega)) hT
          have d1 := hlt
          go_wp2
          go_round
          case rel => exact ⟨k + 1, by omega, by go_num, hT'⟩
          case measure => simp [intOf]; omega
        · have hE : Hid (idB s.data.toList = false) := pre_first hlt (by omega) (by show _ = _; rw [headB_eq]; exact decide_eq_false (by omega)) hT
          have h0' : decide ((0 : Int) < (k : Int)) = false := decide_eq_false (by omega)
          go_wp2
          go_ret
          exact ⟨ret1 hE.out.symm, rfl⟩
      · have hE : Hid (idB s.data.toList = false) := pre_no hlt (by show _ = _; rw [tailB_eq]; exact decide_eq_false (by omega)) hT
        by_cases h0 : 0 < k
        · have d1 : decide ((s[k].toNat : Int) ≤ 57) = false := decide_eq_false (by omega)
          go_wp2
          go_ret
          exact ⟨ret1 hE.out.symm, rfl⟩
        · have h0' : decide ((0 : Int) < (k : Int)) = false := decide_eq_false (by omega)
          go_wp2
          go_ret
          exact ⟨ret1 hE.out.symm, rfl⟩
      · have hT' := pre_head hlt (by show _ = _; rw [headB_eq]; exact decide_eq_true (by omega)) hT
        go_wp2
        go_round
        case rel => exact ⟨k + 1, by omega, by go_num, hT'⟩
        case measure => simp [intOf]; omega
      · have hE : Hid (idB s.data.toList = false) := pre_no hlt (by show _ = _; rw [tailB_eq]; exact decide_eq_false (by omega)) hT
        by_cases h0 : 0 < k
        · have d1 : decide ((s[k].toNat : Int) ≤ 57) = false := decide_eq_false (by omega)
          go_wp2
          go_ret
          exact ⟨ret1 hE.out.symm, rfl⟩
        · have h0' : decide ((0 : Int) < (k : Int)) = false := decide_eq_false (by omega)
          go_wp2
          go_ret
          exact ⟨ret1 hE.out.symm, rfl⟩
      · have hT' := pre_head hlt (by show _ = _; rw [headB_eq]; exact decide_eq_true (by omega)) hT
        go_wp2
        go_round
        case rel => exact ⟨k + 1, by omega, by go_num, hT'⟩
        case measure => simp [intOf]; omega
      · have hE : Hid (idB s.data.toList = false) := pre_no hlt (by show _ = _; rw [tailB_eq]; exact decide_eq_false (by omega)) hT
        by_cases h0 : 0 < k
        · have d1 : decide ((s[k].toNat : Int) ≤ 57) = false := decide_eq_false (by omega)
          go_wp2
          go_ret
          exact ⟨ret1 hE.out.symm, rfl⟩
        · have h0' : decide ((0 : Int) < (k : Int)) = false := decide_eq_false (by omega)
          go_wp2
          go_ret
          exact ⟨ret1 hE.out.symm, rfl⟩
      · have hT' := pre_head hlt (by show _ = _; rw [headB_eq]; exact decide_eq_true (by omega)) hT
        go_wp2
        go_round
        case rel => exact ⟨k + 1, by omega, by go_num, hT'⟩
        case measure => simp [intOf]; omega
      · have hE : Hid (idB s.data.toList = false) := pre_no hlt (by show _ = _; rw [tailB_eq]; exact decide_eq_false (by omega)) hT
        by_cases h0 : 0 < k
        · have d1 : decide ((s[k].toNat : Int) ≤ 57) = false := decide_eq_false (by omega)
          go_wp2
          go_ret
          exact ⟨ret1 hE.out.symm, rfl⟩
        · have h0' : decide ((0 : Int) < (k : Int)) = false := decide_eq_false (by omega)
          go_wp2
          go_ret
          exact ⟨ret1 hE.out.symm, rfl⟩
    · have hE : Hid (idB s.data.toList = !s.data.toList.isEmpty) := pre_end hlt hT
      go_wp2
      go_ret
      exact ⟨ret1 (by rw [hE.out, list_data]), rfl⟩

set_option maxHeartbeats 400000 in
theorem zzident_any (s : ByteArray) (w : World) (hs : s.size ≤ 4194304) :
    Calls Try.prog 14 #[.string s] w fun e w' => e = .returned (.bool (idB s.data.toList)) ∧ w' = w := by
  go_enter Try.func14, Try.ntmps14
  go_wp2_with (go_at_call 23; refine (ident_any s _ hs).mono ?_; rintro e w' ⟨rfl, rfl⟩)
  go_ret
  exact ⟨rfl, rfl⟩

end Go.Proofs.Qxb6618103a.Idn
