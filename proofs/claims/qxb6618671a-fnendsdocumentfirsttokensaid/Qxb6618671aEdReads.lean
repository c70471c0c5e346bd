import Derived.Test.Qxb6618671aEdEnds
namespace Go.Proofs.Qxb6618671a.Ed
open Go.RowKit

/-! ### The first word -/
def wsB (n : Int) : Bool := decide (n = 32 ∨ n = 9)
def tokLen : List Int → Nat
  | [] => 0
  | c :: r => if wsB c then 0 else tokLen r + 1
def tokB (zs : List Int) : Bool := decide (tokLen zs = 3) && dots3 zs

theorem ws46 : wsB 46 = false := by decide

/-- endsDocument says whether the first word is three dots. -/
theorem ends_tok (zs : List Int) : endsB zs = tokB zs := by
  unfold endsB tokB
  cases h : dots3 zs
  · simp
  · have h' : zs.take 3 = [46, 46, 46] := by simpa [dots3] using h
    match zs, h' with
    | a :: b :: c :: r, h' =>
      simp at h'
      obtain ⟨rfl, rfl, rfl⟩ := h'
      cases r with
      | nil => simp [tokLen, ws46]
      | cons d r =>
        rw [Bool.eq_iff_iff]
        by_cases hw : wsB d
        · have hw' : d = 32 ∨ d = 9 := by simpa [wsB] using hw
          simp [tokLen, ws46, hw]; omega
        · have hw' : ¬ (d = 32 ∨ d = 9) := by simpa [wsB] using hw
          simp [tokLen, ws46, hw]; omega

theorem tokLen_le (zs : List Int) : tokLen zs ≤ zs.length := by
  induction zs with
  | nil => simp [tokLen]
  | cons c r ih => simp only [tokLen]; split <;> simp; omega
theorem tokLen_sep (zs ss : List Int) (d : Int) (hd : wsB d = true) : tokLen (zs ++ d :: ss) = tokLen zs := by
  induction zs with
  | nil => simp [tokLen, hd]
  | cons c r ih => simp only [tokLen, List.cons_append, ih]
/-- A word that ends at a blank is the same word. -/
theorem tok_sep (zs ss : List Int) (d : Int) (hd : wsB d = true) : tokB (zs ++ d :: ss) = tokB zs := by
  unfold tokB
  rw [tokLen_sep zs ss d hd]
  by_cases h3 : tokLen zs = 3
  · have := tokLen_le zs
    have e : dots3 (zs ++ d :: ss) = dots3 zs := by
      unfold dots3
      rw [List.take_append_of_le_length (by omega)]
    rw [e]
  · simp [h3]

/-! ### firstTokenIsDots -/
/-- The loop stands at k, no blank before it. -/
def TokAt (zs : List Int) (k : Nat) : Prop := tokLen zs = k + tokLen (zs.drop k)
theorem drop_at (zs : List Int) (k : Nat) (h : k < zs.length) : zs.drop k = zs.getD k 0 :: zs.drop (k + 1) := by
  rw [List.drop_eq_getElem_cons h, List.getD_eq_getElem?_getD, List.getElem?_eq_getElem h]; rfl
theorem tokAt_more {zs : List Int} {k : Nat} (h : k < zs.length) (hw : zs.getD k 0 ≠ 32 ∧ zs.getD k 0 ≠ 9) (ht : TokAt zs k) : TokAt zs (k + 1) := by
  unfold TokAt at ht ⊢
  have : wsB (zs.getD k 0) = false := decide_eq_false (by omega)
  rw [drop_at zs k h] at ht
  simp only [tokLen, this, Bool.false_eq_true, if_false] at ht
  omega
theorem tokAt_stop {zs : List Int} {k : Nat} (h : k < zs.length) (hw : zs.getD k 0 = 32 ∨ zs.getD k 0 = 9) (ht : TokAt zs k) : tokLen zs = k := by
  unfold TokAt at ht
  have : wsB (zs.getD k 0) = true := decide_eq_true hw
  rw [drop_at zs k h] at ht
  simp only [tokLen, this, if_true] at ht
  omega
theorem tokAt_end {zs : List Int} {k : Nat} (h : zs.length ≤ k) (ht : TokAt zs k) : tokLen zs = k := by
  unfold TokAt at ht
  rw [List.drop_eq_nil_of_le h] at ht
  simpa [tokLen] using ht
theorem dots3_get {zs : List Int} (h : 3 ≤ zs.length) : dots3 zs = (decide (zs.getD 0 0 = 46) && decide (zs.getD 1 0 = 46) && decide (zs.getD 2 0 = 46)) := by
  match zs, h with
  | a :: b :: c :: r, _ => simp [dots3, Bool.and_assoc]
theorem tok_not {zs : List Int} {k : Nat} (h : tokLen zs = k) (hk : k ≠ 3) : tokB zs = false := by
  simp [tokB, h, hk]
theorem tok_three {zs : List Int} (h : tokLen zs = 3) : tokB zs = dots3 zs := by simp [tokB, h]

set_option maxHeartbeats 400000 in
theorem first_empty (a1 : Option Addr) (c : Nat) (w : World) :
    Calls Try.prog 6 #[.slice a1 0 c] w fun e w' => e = .returned (.bool false) ∧ w' = w := by
  go_enter Try.func6, Try.ntmps6
  go_wp2
  refine wp_loop_rounds 1 ?_
  rw [rounds_succ]
  go_wp2
  go_ret
  exact ⟨rfl, rfl⟩

set_option maxHeartbeats 1000000 in
theorem first_any (b off n c : Nat) (zs : List Int) (w : World) (hn : n ≤ 1048576) (hx : zs.length = n)
    (hc : ∀ i, i < n → w.cell? ⟨b, off + i, none⟩ = some (.int .u8 (zs.getD i 0))) :
    Calls Try.prog 6 #[.slice (some ⟨b, off, none⟩) n c] w fun e w' => e = .returned (.bool (tokB zs)) ∧ w' = w := by
  have HC : Hid (∀ i, i < n → w.cell? ⟨b, off + i, none⟩ = some (.int .u8 (zs.getD i 0))) := hc
  have HX : Hid (zs.length = n) := hx
  clear hc hx
  go_enter Try.func6, Try.ntmps6
  go_wp2
  go_loop [3] (fun i => ∃ k : Nat, k ≤ n ∧ i = .int .i64 k ∧ TokAt zs k) (fun i => n - (intOf i).toNat)
  case atStart => exact ⟨0, by omega, rfl, by simp [TokAt]⟩
  case round =>
    obtain ⟨k, hk, rfl, hT⟩ := hrel
    by_cases hlt : k < n
    · have hlt' : (k : Int) < (n : Int) := by omega
      have hck := HC.out k hlt
      obtain ⟨v, hv⟩ : ∃ v, v = zs.getD k 0 := ⟨_, rfl⟩
      rw [← hv] at hck
      have HV : Hid (v = zs.getD k 0) := hv
      clear hv
      by_cases h32 : v = 32
      · have HL : Hid (tokLen zs = k) := tokAt_stop (by rw [HX.out]; omega) (.inl (by rw [← HV.out, h32])) hT
        have d1 : (v != 32) = false := by simp [h32]
        clear h32
        by_cases h3 : k = 3
        · have h3' : ((k : Int) == 3) = true := by simp; omega
          have hn0 : (0 : Int) < (n : Int) := by omega
          have hn1 : (1 : Int) < (n : Int) := by omega
          have hn2 : (2 : Int) < (n : Int) := by omega
          have hc0 := HC.out 0 (by omega)
          have hc1 := HC.out 1 (by omega)
          have hc2 := HC.out 2 (by omega)
          obtain ⟨z0, e0⟩ : ∃ v, v = zs.getD 0 0 := ⟨_, rfl⟩
          obtain ⟨z1, e1⟩ : ∃ v, v = zs.getD 1 0 := ⟨_, rfl⟩
          obtain ⟨z2, e2⟩ : ∃ v, v = zs.getD 2 0 := ⟨_, rfl⟩
          rw [← e0, Nat.add_zero] at hc0
          rw [← e1] at hc1
          rw [← e2] at hc2
          have HE : Hid (tokB zs = (decide (z0 = 46) && decide (z1 = 46) && decide (z2 = 46))) := by show _ = _; rw [tok_three (by rw [HL.out, h3]), dots3_get (by rw [HX.out]; omega), e0, e1, e2]
          clear e0 e1 e2 h3
          by_cases h0 : z0 = 46
          · have h0' : (z0 == 46) = true := by simpa using h0
            by_cases h1 : z1 = 46
            · have h1' : (z1 == 46) = true := by simpa using h1
              have HE2 : Hid ((z2 == 46) = tokB zs) := by show _ = _; rw [HE.out, Bool.eq_iff_iff]; simp [h0, h1]
              clear h0 h1
              go_wp2
              go_ret
              exact ⟨ret1 HE2.out, rfl⟩
            · have h1' : (z1 == 46) = false := by simpa using h1
              have HE2 : Hid (tokB zs = false) := by show _ = _; rw [HE.out]; simp [h1]
              clear h0 h1
              go_wp2
              go_ret
              exact ⟨ret1 HE2.out.symm, rfl⟩
          · have h0' : (z0 == 46) = false := by simpa using h0
            have HE2 : Hid (tokB zs = false) := by show _ = _; rw [HE.out]; simp [h0]
            clear h0
            go_wp2
            go_ret
            exact ⟨ret1 HE2.out.symm, rfl⟩
        · have h3' : ((k : Int) == 3) = false := by simp; omega
          have HE2 : Hid (tokB zs = false) := tok_not HL.out h3
          go_wp2
          go_ret
          exact ⟨ret1 HE2.out.symm, rfl⟩
      · have d1 : (v != 32) = true := by simpa using h32
        by_cases h9 : v = 9
        · have HL : Hid (tokLen zs = k) := tokAt_stop (by rw [HX.out]; omega) (.inr (by rw [← HV.out, h9])) hT
          have d2 : (v != 9) = false := by simp [h9]
          clear h9 h32
          by_cases h3 : k = 3
          · have h3' : ((k : Int) == 3) = true := by simp; omega
            have hn0 : (0 : Int) < (n : Int) := by omega
            have hn1 : (1 : Int) < (n : Int) := by omega
            have hn2 : (2 : Int) < (n : Int) := by omega
            have hc0 := HC.out 0 (by omega)
            have hc1 := HC.out 1 (by omega)
            have hc2 := HC.out 2 (by omega)
            obtain ⟨z0, e0⟩ : ∃ v, v = zs.getD 0 0 := ⟨_, rfl⟩
            obtain ⟨z1, e1⟩ : ∃ v, v = zs.getD 1 0 := ⟨_, rfl⟩
            obtain ⟨z2, e2⟩ : ∃ v, v = zs.getD 2 0 := ⟨_, rfl⟩
            rw [← e0, Nat.add_zero] at hc0
            rw [← e1] at hc1
            rw [← e2] at hc2
            have HE : Hid (tokB zs = (decide (z0 = 46) && decide (z1 = 46) && decide (z2 = 46))) := by show _ = _; rw [tok_three (by rw [HL.out, h3]), dots3_get (by rw [HX.out]; omega), e0, e1, e2]
            clear e0 e1 e2 h3
            by_cases h0 : z0 = 46
            · have h0' : (z0 == 46) = true := by simpa using h0
              by_cases h1 : z1 = 46
              · have h1' : (z1 == 46) = true := by simpa using h1
                have HE2 : Hid ((z2 == 46) = tokB zs) := by show _ = _; rw [HE.out, Bool.eq_iff_iff]; simp [h0, h1]
                clear h0 h1
                go_wp2
                go_ret
                exact ⟨ret1 HE2.out, rfl⟩
              · have h1' : (z1 == 46) = false := by simpa using h1
                have HE2 : Hid (tokB zs = false) := by show _ = _; rw [HE.out]; simp [h1]
                clear h0 h1
                go_wp2
                go_ret
                exact ⟨ret1 HE2.out.symm, rfl⟩
            · have h0' : (z0 == 46) = false := by simpa using h0
              have HE2 : Hid (tokB zs = false) := by show _ = _; rw [HE.out]; simp [h0]
              clear h0
              go_wp2
              go_ret
              exact ⟨ret1 HE2.out.symm, rfl⟩
          · have h3' : ((k : Int) == 3) = false := by simp; omega
            have HE2 : Hid (tokB zs = false) := tok_not HL.out h3
            go_wp2
            go_ret
            exact ⟨ret1 HE2.out.symm, rfl⟩
        · have d2 : (v != 9) = true := by simpa using h9
          have hT' : TokAt zs (k + 1) := tokAt_more (by rw [HX.out]; omega) (by rw [← HV.out]; exact ⟨h32, h9⟩) hT
          clear h32 h9
          go_wp2
          go_round
          case rel => exact ⟨k + 1, by omega, by go_num, hT'⟩
          case measure => simp [intOf]; omega
    · have HL : Hid (tokLen zs = k) := tokAt_end (by rw [HX.out]; omega) hT
      have hd : decide ((k : Int) < (n : Int)) = false := decide_eq_false (by omega)
      by_cases h3 : k = 3
      · have h3' : ((k : Int) == 3) = true := by simp; omega
        have hn0 : (0 : Int) < (n : Int) := by omega
        have hn1 : (1 : Int) < (n : Int) := by omega
        have hn2 : (2 : Int) < (n : Int) := by omega
        have hc0 := HC.out 0 (by omega)
        have hc1 := HC.out 1 (by omega)
        have hc2 := HC.out 2 (by omega)
        obtain ⟨z0, e0⟩ : ∃ v, v = zs.getD 0 0 := ⟨_, rfl⟩
        obtain ⟨z1, e1⟩ : ∃ v, v = zs.getD 1 0 := ⟨_, rfl⟩
        obtain ⟨z2, e2⟩ : ∃ v, v = zs.getD 2 0 := ⟨_, rfl⟩
        rw [← e0, Nat.add_zero] at hc0
        rw [← e1] at hc1
        rw [← e2] at hc2
        have HE : Hid (tokB zs = (decide (z0 = 46) && decide (z1 = 46) && decide (z2 = 46))) := by show _ = _; rw [tok_three (by rw [HL.out, h3]), dots3_get (by rw [HX.out]; omega), e0, e1, e2]
        clear e0 e1 e2 h3
        by_cases h0 : z0 = 46
        · have h0' : (z0 == 46) = true := by simpa using h0
          by_cases h1 : z1 = 46
          · have h1' : (z1 == 46) = true := by simpa using h1
            have HE2 : Hid ((z2 == 46) = tokB zs) := by show _ = _; rw [HE.out, Bool.eq_iff_iff]; simp [h0, h1]
            clear h0 h1
            go_wp2
            go_ret
            exact ⟨ret1 HE2.out, rfl⟩
          · have h1' : (z1 == 46) = false := by simpa using h1
            have HE2 : Hid (tokB zs = false) := by show _ = _; rw [HE.out]; simp [h1]
            clear h0 h1
            go_wp2
            go_ret
            exact ⟨ret1 HE2.out.symm, rfl⟩
        · have h0' : (z0 == 46) = false := by simpa using h0
          have HE2 : Hid (tokB zs = false) := by show _ = _; rw [HE.out]; simp [h0]
          clear h0
          go_wp2
          go_ret
          exact ⟨ret1 HE2.out.symm, rfl⟩
      · have h3' : ((k : Int) == 3) = false := by simp; omega
        have HE2 : Hid (tokB zs = false) := tok_not HL.out h3
        go_wp2
        go_ret
        exact ⟨ret1 HE2.out.symm, rfl⟩

/-! ### allDots -/
def allB (zs : List Int) (m : Nat) : Bool := decide (zs = List.replicate m 46)
theorem all_len {zs : List Int} {m : Nat} (h : zs.length ≠ m) : allB zs m = false := by
  unfold allB; refine decide_eq_false (fun e => h ?_); rw [e]; simp
/-- All dots so far. -/
def DotsTo (zs : List Int) (k : Nat) : Prop := zs.take k = List.replicate k 46
theorem dots_more {zs : List Int} {k : Nat} (h : k < zs.length) (hv : zs.getD k 0 = 46) (hd : DotsTo zs k) : DotsTo zs (k + 1) := by
  unfold DotsTo at hd ⊢
  rw [List.take_succ_eq_append_getElem h, hd, List.replicate_succ']
  have : zs.getD k 0 = zs[k] := by rw [List.getD_eq_getElem?_getD, List.getElem?_eq_getElem h]; rfl
  rw [← this, hv]
theorem dots_not {zs : List Int} {k m : Nat} (h : k < zs.length) (hv : zs.getD k 0 ≠ 46) : allB zs m = false := by
  unfold allB
  refine decide_eq_false (fun e => hv ?_)
  have hl : k < m := by rw [e] at h; simpa using h
  rw [e, List.getD_eq_getElem?_getD]; simp [hl]
theorem dots_end {zs : List Int} {k m : Nat} (h : zs.length = m) (hk : m ≤ k) (hd : DotsTo zs k) : allB zs m = true := by
  unfold allB
  refine decide_eq_true ?_
  unfold DotsTo at hd
  rw [List.take_of_length_le (by omega)] at hd
  have : k = m := by have := congrArg List.length hd; simp at this; omega
  rw [← this]; exact hd

set_option maxHeartbeats 400000 in
theorem all_short (a1 : Option Addr) (n c : Nat) (m : Nat) (w : World) (h : n ≠ m) :
    Calls Try.prog 9 #[.slice a1 n c, .int .i64 m] w fun e w' => e = .returned (.bool false) ∧ w' = w := by
  have hd : ((n : Int) != (m : Int)) = true := by simp; omega
  go_enter Try.func9, Try.ntmps9
  go_wp2
  go_ret
  exact ⟨rfl, rfl⟩

set_option maxHeartbeats 400000 in
theorem all_any (b off n c : Nat) (zs : List Int) (w : World) (hn : n ≤ 1048576) (hx : zs.length = n)
    (hc : ∀ i, i < n → w.cell? ⟨b, off + i, none⟩ = some (.int .u8 (zs.getD i 0))) :
    Calls Try.prog 9 #[.slice (some ⟨b, off, none⟩) n c, .int .i64 n] w fun e w' => e = .returned (.bool (allB zs n)) ∧ w' = w := by
  have HC : Hid (∀ i, i < n → w.cell? ⟨b, off + i, none⟩ = some (.int .u8 (zs.getD i 0))) := hc
  have HX : Hid (zs.length = n) := hx
  clear hc hx
  go_enter Try.func9, Try.ntmps9
  go_wp2
  go_loop [5] (fun i => ∃ k : Nat, k ≤ n ∧ i = .int .i64 k ∧ DotsTo zs k) (fun i => n - (intOf i).toNat)
  case atStart => exact ⟨0, by omega, rfl, by simp [DotsTo]⟩
  case round =>
    obtain ⟨k, hk, rfl, hT⟩ := hrel
    by_cases hlt : k < n
    · have hlt' : (k : Int) < (n : Int) := by omega
      have hck := HC.out k hlt
      obtain ⟨v, hv⟩ : ∃ v, v = zs.getD k 0 := ⟨_, rfl⟩
      rw [← hv] at hck
      by_cases h46 : v = 46
      · have hT' : DotsTo zs (k + 1) := dots_more (by rw [HX.out]; omega) (by rw [← hv, h46]) hT
        have d1 : (v != 46) = false := by simp [h46]
        clear hv h46
        go_wp2
        go_round
        case rel => exact ⟨k + 1, by omega, by go_num, hT'⟩
        case measure => simp [intOf]; omega
      · have HE : Hid (allB zs n = false) := dots_not (by rw [HX.out]; exact hlt) (by rw [← hv]; exact h46)
        have d1 : (v != 46) = true := by simpa using h46
        clear hv h46
        go_wp2
        go_ret
        exact ⟨ret1 HE.out.symm, rfl⟩
    · have HE : Hid (allB zs n = true) := dots_end HX.out (by omega) hT
      go_wp2
      go_ret
      exact ⟨ret1 HE.out.symm, rfl⟩

/-! ### The bounds on total length -/
def zz1 (a : Nat) : Bool := decide (a ≤ 1048576)
theorem zz1_no {a : Nat} (h : ¬ a ≤ 1048576) : zz1 a = false := decide_eq_false h
theorem zz1_yes {a : Nat} (h : a ≤ 1048576) : zz1 a = true := decide_eq_true h
def zzB (a b : Nat) : Bool := decide (a + b ≤ 1048576)
theorem zz_no {a b : Nat} (h : ¬ a + b ≤ 1048576) : zzB a b = false := decide_eq_false h
theorem zz_yes {a b : Nat} (h : a + b ≤ 1048576) : zzB a b = true := decide_eq_true h

set_option maxHeartbeats 400000 in
theorem zz8_any (a1 : Option Addr) (n c : Nat) (w : World) (hn : n ≤ maxLen) :
    Calls Try.prog 8 #[.slice a1 n c] w fun e w' => e = .returned (.bool (zz1 n)) ∧ w' = w := by
  unfold maxLen at hn
  go_enter Try.func8, Try.ntmps8
  go_wp2
  all_goals go_ret
  all_goals first | exact ⟨ret1 (zz1_no (by omega)).symm, rfl⟩ | exact ⟨ret1 (zz1_yes (by omega)).symm, rfl⟩

set_option maxHeartbeats 400000 in
theorem zz5_any (a1 : Option Addr) (n c : Nat) (a2 : Option Addr) (m d : Nat) (t : Bool) (w : World) (hn : n ≤ maxLen) (hm : m ≤ maxLen) :
    Calls Try.prog 5 #[.slice a1 n c, .slice a2 m d, .bool t] w fun e w' => e = .returned (.bool (zzB n m)) ∧ w' = w := by
  unfold maxLen at hn hm
  go_enter Try.func5, Try.ntmps5
  go_wp2
  all_goals go_ret
  all_goals first | exact ⟨ret1 (zz_no (by omega)).symm, rfl⟩ | exact ⟨ret1 (zz_yes (by omega)).symm, rfl⟩

end Go.Proofs.Qxb6618671a.Ed
