import Derived.Test.Qxb6618103aNumStep
namespace Go.Proofs.Qxb6618103a.Num
open Go.RowKit

theorem step_le (st : Nat) (c : UInt8) : step st c ≤ 8 := by
  unfold step
  repeat' split
  all_goals omega

theorem take_snoc (s : ByteArray) (k : Nat) (h : k < s.size) : s.data.toList.take (k + 1) = s.data.toList.take k ++ [s[k]] := by
  rw [List.take_succ_eq_append_getElem (by simpa using h)]; rfl
theorem run_snoc (s : ByteArray) (k : Nat) (h : k < s.size) : run 0 (s.data.toList.take (k + 1)) = step (run 0 (s.data.toList.take k)) s[k] := by
  rw [take_snoc s k h, run_append]; rfl

/-- The automaton's place in the text. -/
def At (s : ByteArray) (k st : Nat) : Prop := run 0 (s.data.toList.take k) = st
theorem at_step {s : ByteArray} {k st : Nat} (h : k < s.size) (ha : At s k st) : At s (k + 1) (step st s[k]) := by
  unfold At at ha ⊢; rw [run_snoc s k h, ha]
theorem at_dead {s : ByteArray} {k : Nat} (ha : At s k 8) : autB s.data.toList = false := by
  unfold At at ha; unfold autB
  have e : s.data.toList = s.data.toList.take k ++ s.data.toList.drop k := (List.take_append_drop _ _).symm
  rw [e, run_append, ha]; exact acc8 _
theorem at_end {s : ByteArray} {k st : Nat} (h : ¬ k < s.size) (ha : At s k st) : autB s.data.toList = acc st := by
  unfold At at ha; unfold autB
  rw [← ha, List.take_of_length_le (by simp; omega)]

theorem acc_int (st : Nat) : acc st = ((st : Int) == 2 || (st : Int) == 4 || (st : Int) == 7) := by
  rw [Bool.eq_iff_iff]; simp [acc]; omega

set_option maxHeartbeats 400000 in
theorem aut_any (s : ByteArray) (w : World) (hs : s.size ≤ 4194304) :
    Calls Try.prog 10 #[.string s] w fun e w' => e = .returned (.bool (autB s.data.toList)) ∧ w' = w := by
  go_enter Try.func10, Try.ntmps10
  go_wp2
  go_loop [3, 4] (fun t i => ∃ k st : Nat, k ≤ s.size ∧ st ≤ 8 ∧ i = .int .i64 k ∧ t = .int .i64 st ∧ At s k st) (fun _ i => s.size - (intOf i).toNat)
  case atStart => exact ⟨0, 0, by omega, by omega, rfl, rfl, rfl⟩
  case round =>
    obtain ⟨k, st, hk, hst, rfl, rfl, hA⟩ := hrel
    by_cases hlt : k < s.size
    · have hA1 := at_step hlt hA
      have hle := step_le st s[k]
      go_wp2_with (go_at_call 22; refine (step_any st s[k] hst _).mono ?_; rintro e w' ⟨rfl, rfl⟩)
      · go_ret
        have h8 : step st s[k] = 8 := by
          have h : ((step st s[k] : Nat) : Int) = 8 := by simpa using (by assumption : (((step st s[k] : Nat) : Int) == 8) = true)
          omega
        rw [h8] at hA1
        exact ⟨ret1 (at_dead hA1).symm, rfl⟩
      · go_round
        case rel => exact ⟨k + 1, step st s[k], by omega, hle, by go_num, rfl, hA1⟩
        case measure => simp [intOf]; omega
    · have hE : Hid (autB s.data.toList = acc st) := at_end hlt hA
      go_wp2
      · go_ret
        have h2 : st = 2 := by omega
        exact ⟨ret1 (by rw [hE.out, h2]; rfl), rfl⟩
      · go_ret
        have h2 : st = 4 := by omega
        exact ⟨ret1 (by rw [hE.out, h2]; rfl), rfl⟩
      · go_ret
        exact ⟨ret1 (by rw [hE.out, acc_int]), rfl⟩

theorem has_snoc (s : ByteArray) (c : UInt8) (k : Nat) (h : k < s.size) : hasB c (s.data.toList.take (k + 1)) = (hasB c (s.data.toList.take k) || s[k] == c) := by
  rw [take_snoc s k h]; simp [hasB, List.any_append]
theorem has_take (s : ByteArray) (c : UInt8) (k : Nat) (h : hasB c (s.data.toList.take k) = true) : hasB c s.data.toList = true := by
  unfold hasB at h ⊢
  rw [List.any_eq_true] at h ⊢
  obtain ⟨x, hx, hb⟩ := h
  exact ⟨x, List.mem_of_mem_take hx, hb⟩
/-- No such byte so far. -/
def Clean (s : ByteArray) (c : UInt8) (k : Nat) : Prop := hasB c (s.data.toList.take k) = false
theorem clean_hit {s : ByteArray} {c : UInt8} {k : Nat} (h : k < s.size) (hc : ((s[k].toNat : Int) == (c.toNat : Int)) = true) : hasB c s.data.toList = true := by
  have e : s[k] = c := by
    have : (s[k].toNat : Int) = (c.toNat : Int) := by simpa using hc
    rw [← UInt8.toNat_inj]; omega
  refine has_take s c (k + 1) ?_
  rw [has_snoc s c k h, e]; simp
theorem clean_miss {s : ByteArray} {c : UInt8} {k : Nat} (h : k < s.size) (hc : ((s[k].toNat : Int) == (c.toNat : Int)) = false) (hn : Clean s c k) : Clean s c (k + 1) := by
  unfold Clean at hn ⊢
  have e : (s[k] == c) = false := by
    cases he : (s[k] == c)
    · rfl
    · have : s[k] = c := by simpa using he
      rw [this] at hc; simp at hc
  rw [has_snoc s c k h, hn, e]; rfl
theorem clean_end {s : ByteArray} {c : UInt8} {k : Nat} (h : ¬ k < s.size) (hn : Clean s c k) : hasB c s.data.toList = false := by
  unfold Clean at hn
  rwa [List.take_of_length_le (by simp; omega)] at hn

set_option maxHeartbeats 400000 in
theorem has_any (s : ByteArray) (c : UInt8) (w : World) (hs : s.size ≤ 4194304) :
    Calls Try.prog 12 #[.string s, .int .u8 (c.toNat : Int)] w fun e w' => e = .returned (.bool (hasB c s.data.toList)) ∧ w' = w := by
  go_enter Try.func12, Try.ntmps12
  go_wp2
  go_loop [5] (fun i => ∃ k : Nat, k ≤ s.size ∧ i = .int .i64 k ∧ Clean s c k) (fun i => s.size - (intOf i).toNat)
  case atStart => exact ⟨0, by omega, rfl, rfl⟩
  case round =>
    obtain ⟨k, hk, rfl, hA⟩ := hrel
    by_cases hlt : k < s.size
    · go_wp2
      · go_ret
        exact ⟨ret1 (clean_hit hlt (by assumption)).symm, rfl⟩
      · go_round
        case rel => exact ⟨k + 1, by omega, by go_num, clean_miss hlt (by assumption) hA⟩
        case measure => simp [intOf]; omega
    · have hE : Hid (hasB c s.data.toList = false) := clean_end hlt hA
      go_wp2
      go_ret
      exact ⟨ret1 hE.out.symm, rfl⟩

def zz1 (a : Nat) : Bool := decide (a ≤ 1048576)
theorem zz1_no {a : Nat} (h : ¬ a ≤ 1048576) : zz1 a = false := decide_eq_false h
theorem zz1_yes {a : Nat} (h : a ≤ 1048576) : zz1 a = true := decide_eq_true h
def zzB (a b : Nat) : Bool := decide (a + b ≤ 1048576)
theorem zz_no {a b : Nat} (h : ¬ a + b ≤ 1048576) : zzB a b = false := decide_eq_false h
theorem zz_yes {a b : Nat} (h : a + b ≤ 1048576) : zzB a b = true := decide_eq_true h

set_option maxHeartbeats 400000 in
theorem zz8_any (p : ByteArray) (w : World) (hp : p.size ≤ maxLen) :
    Calls Try.prog 8 #[.string p] w fun e w' => e = .returned (.bool (zz1 p.size)) ∧ w' = w := by
  unfold maxLen at hp
  go_enter Try.func8, Try.ntmps8
  go_wp2
  all_goals go_ret
  all_goals first | exact ⟨ret1 (zz1_no (by omega)).symm, rfl⟩ | exact ⟨ret1 (zz1_yes (by omega)).symm, rfl⟩

set_option maxHeartbeats 400000 in
theorem zz11_any (p t : ByteArray) (w : World) (hp : p.size ≤ maxLen) (ht : t.size ≤ maxLen) :
    Calls Try.prog 11 #[.string p, .string t] w fun e w' => e = .returned (.bool (zzB p.size t.size)) ∧ w' = w := by
  unfold maxLen at hp ht
  go_enter Try.func11, Try.ntmps11
  go_wp2
  all_goals go_ret
  all_goals first | exact ⟨ret1 (zz_no (by omega)).symm, rfl⟩ | exact ⟨ret1 (zz_yes (by omega)).symm, rfl⟩

end Go.Proofs.Qxb6618103a.Num
