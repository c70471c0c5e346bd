import Derived.Test.Qxb6618103aNumClos
namespace Go.Proofs.Qxb6618103a.Num
open Go.RowKit

theorem looks_no {s : ByteArray} {k1 k2 : Nat} (h1 : SignTo s 0 k1) (h2 : DigsTo s k1 k2 false) : looksB s.data.toList = false := by
  unfold SignTo at h1; unfold DigsTo at h2
  simp only [Nat.zero_add, List.drop_zero] at h1
  subst h1
  have h : ¬ 0 < nd (s.data.toList.drop (ns s.data.toList)) := by have := h2.2; simpa using this
  simp only [looksB, skipSign_drop, digs_nd, if_neg h]
theorem looks_yes {s : ByteArray} {k1 k2 : Nat} (h1 : SignTo s 0 k1) (h2 : DigsTo s k1 k2 true) : looksB s.data.toList = fracPart (s.data.toList.drop k2) := by
  unfold SignTo at h1; unfold DigsTo at h2
  simp only [Nat.zero_add, List.drop_zero] at h1
  subst h1
  have h : 0 < nd (s.data.toList.drop (ns s.data.toList)) := by have := h2.2; simpa using this
  simp only [looksB, skipSign_drop, digs_nd, if_pos h, List.drop_drop, h2.1]
theorem exp_end {s : ByteArray} {k : Nat} (h : ¬ k < s.size) : expPart (s.data.toList.drop k) = true := by rw [drop_past s k h]; rfl
theorem frac_end {s : ByteArray} {k : Nat} (h : ¬ k < s.size) : fracPart (s.data.toList.drop k) = true := by rw [drop_past s k h]; rfl
theorem frac_none {s : ByteArray} {k : Nat} (h : k < s.size) (hc : (s[k].toNat : Int) ≠ 46) : fracPart (s.data.toList.drop k) = expPart (s.data.toList.drop k) := by
  have hd : dotB s[k] = false := decide_eq_false (by omega)
  rw [drop_at s k h]; simp [fracPart, hd]
theorem frac_no {s : ByteArray} {k k' : Nat} (h : k < s.size) (hc : (s[k].toNat : Int) = 46) (h2 : DigsTo s (k + 1) k' false) : fracPart (s.data.toList.drop k) = false := by
  unfold DigsTo at h2
  have hd : dotB s[k] = true := decide_eq_true (by omega)
  have hn : ¬ 0 < nd (s.data.toList.drop (k + 1)) := by have := h2.2; simpa using this
  rw [drop_at s k h]; simp only [fracPart, hd, digs_nd, if_neg hn, if_true]
theorem frac_yes {s : ByteArray} {k k' : Nat} (h : k < s.size) (hc : (s[k].toNat : Int) = 46) (h2 : DigsTo s (k + 1) k' true) : fracPart (s.data.toList.drop k) = expPart (s.data.toList.drop k') := by
  unfold DigsTo at h2
  have hd : dotB s[k] = true := decide_eq_true (by omega)
  have hn : 0 < nd (s.data.toList.drop (k + 1)) := by have := h2.2; simpa using this
  rw [drop_at s k h]; simp only [fracPart, hd, digs_nd, if_pos hn, if_true, List.drop_drop, h2.1]
theorem exp_none {s : ByteArray} {k : Nat} (h : k < s.size) (hc : (s[k].toNat : Int) ≠ 101 ∧ (s[k].toNat : Int) ≠ 69) : expPart (s.data.toList.drop k) = false := by
  have hd : markB s[k] = false := decide_eq_false (by omega)
  rw [drop_at s k h]; simp [expPart, hd]
theorem exp_no {s : ByteArray} {k k' k'' : Nat} (h : k < s.size) (hc : (s[k].toNat : Int) = 101 ∨ (s[k].toNat : Int) = 69) (h1 : SignTo s (k + 1) k') (h2 : DigsTo s k' k'' false) : expPart (s.data.toList.drop k) = false := by
  unfold SignTo at h1; unfold DigsTo at h2
  have hd : markB s[k] = true := decide_eq_true (by omega)
  subst h1
  have hn : ¬ 0 < nd (s.data.toList.drop (k + 1 + ns (s.data.toList.drop (k + 1)))) := by have := h2.2; simpa using this
  rw [drop_at s k h]; simp only [expPart, hd, skipSign_drop, List.drop_drop, digs_nd, if_neg hn, if_true]
theorem exp_yes {s : ByteArray} {k k' k'' : Nat} (h : k < s.size) (hc : (s[k].toNat : Int) = 101 ∨ (s[k].toNat : Int) = 69) (h1 : SignTo s (k + 1) k') (h2 : DigsTo s k' k'' true) (hle : k'' ≤ s.size) : expPart (s.data.toList.drop k) = ((k'' : Int) == (s.size : Int)) := by
  unfold SignTo at h1; unfold DigsTo at h2
  have hd : markB s[k] = true := decide_eq_true (by omega)
  have hn : 0 < nd (s.data.toList.drop k') := by have := h2.2; simpa using this
  have e : expPart (s.data.toList.drop k) = (s.data.toList.drop k'').isEmpty := by
    rw [drop_at s k h, h2.1]
    subst h1
    simp only [expPart, hd, skipSign_drop, List.drop_drop, digs_nd, if_pos hn, if_true]
  rw [e, Bool.eq_iff_iff, List.isEmpty_iff]
  simp
  omega

theorem st_begin (w : World) (s : ByteArray) : St w s 0 ((w.alloc (.cells #[.string s] 9)).alloc (.cells #[.int .i64 0] 3)) := by
  refine ⟨?_, ?_, ((Grown.refl w).alloc _ _).alloc _ _⟩
  · rw [Below.heap_alloc _ _ _ (by simp)]
    show (w.heap.push _)[w.heap.size]? = _
    simp
  · show (((w.alloc _).heap.push _))[w.heap.size + 1]? = _
    have : (w.alloc (.cells #[.string s] 9)).heap.size = w.heap.size + 1 := by simp
    rw [← this]
    exact Array.getElem?_push_size

set_option maxHeartbeats 2000000 in
theorem looks_any (s : ByteArray) (w : World) (hs : s.size ≤ 4194304) :
    Calls Try.prog 21 #[.string s] w fun e w' => e = .returned (.bool (looksB s.data.toList)) ∧ Grown w w' := by
  have st0 := st_begin w s
  go_enter Try.func21, Try.ntmps21
  go_wp2_with fail
  refine (sign_any w s 0 _ hs (by omega) st0).mono ?_
  rintro e w1 ⟨rfl, k1, hk1, hS1, hst1⟩
  clear st0
  go_wp2_with fail
  refine (digits_any w s k1 _ hs hk1 hst1).mono ?_
  rintro e w2 ⟨k2, b2, rfl, hk2, hD2, hst2⟩
  clear hst1
  have hc1 := cell_of_one hst2.1
  have hc2 := cell_of_one hst2.2.1
  have hf2 := free_of_one hst2.2.1
  cases b2
  · go_wp2_with fail
    go_ret
    exact ⟨ret1 (looks_no hS1 hD2).symm, hst2.2.2⟩
  · have hL := looks_yes hS1 hD2
    have HL : Hid (looksB s.data.toList = fracPart (s.data.toList.drop k2)) := hL
    clear hL
    by_cases hlt : k2 < s.size
    · by_cases hd : (s[k2].toNat : Int) = 46
      · have hd' : ((s[k2].toNat : Int) == 46) = true := by simpa using hd
        have HD : Hid ((s[k2].toNat : Int) = 46) := hd
        clear hd
        have st3 : St w s (k2 + 1) (w2.setCell ⟨w.heap.size + 1, 0, none⟩ (.int .i64 ((k2 : Nat) + 1))) := st_set hst2 (k2 + 1)
        go_wp2_with fail
        refine (digits_any w s (k2 + 1) _ hs (by omega) st3).mono ?_
        rintro e w4 ⟨k4, b4, rfl, hk4, hD4, hst4⟩
        clear st3
        have hc41 := cell_of_one hst4.1
        have hc42 := cell_of_one hst4.2.1
        have hf4 := free_of_one hst4.2.1
        cases b4
        · go_wp2_with fail
          go_ret
          exact ⟨ret1 (HL.out.trans (frac_no hlt HD.out hD4)).symm, hst4.2.2⟩
        · have HE : Hid (looksB s.data.toList = expPart (s.data.toList.drop k4)) := HL.out.trans (frac_yes hlt HD.out hD4)
          clear hc1 hc2 hf2 hd'
          by_cases hlt4 : k4 < s.size
          · by_cases hm1 : (s[k4].toNat : Int) = 101
            · have hm1' : ((s[k4].toNat : Int) == 101) = true := by simpa using hm1
              have HM : Hid ((s[k4].toNat : Int) = 101 ∨ (s[k4].toNat : Int) = 69) := .inl hm1
              clear hm1
              have st5 : St w s (k4 + 1) (w4.setCell ⟨w.heap.size + 1, 0, none⟩ (.int .i64 ((k4 : Nat) + 1))) := st_set hst4 (k4 + 1)
              go_wp2_with fail
              refine (sign_any w s (k4 + 1) _ hs (by omega) st5).mono ?_
              rintro e w6 ⟨rfl, k6, hk6, hS6, hst6⟩
              clear st5
              go_wp2_with fail
              refine (digits_any w s k6 _ hs hk6 hst6).mono ?_
              rintro e w7 ⟨k7, b7, rfl, hk7, hD7, hst7⟩
              clear hst6
              have hc71 := cell_of_one hst7.1
              have hc72 := cell_of_one hst7.2.1
              cases b7
              · go_wp2_with fail
                go_ret
                exact ⟨ret1 ((HE.out).trans (exp_no hlt4 HM.out hS6 hD7)).symm, hst7.2.2⟩
              · go_wp2_with fail
                go_ret
                exact ⟨ret1 ((HE.out).trans (exp_yes hlt4 HM.out hS6 hD7 hk7)).symm, hst7.2.2⟩
            · by_cases hm2 : (s[k4].toNat : Int) = 69
              · have hm1' : ((s[k4].toNat : Int) == 101) = false := by simpa using hm1
                have hm2' : ((s[k4].toNat : Int) == 69) = true := by simpa using hm2
                have HM : Hid ((s[k4].toNat : Int) = 101 ∨ (s[k4].toNat : Int) = 69) := .inr hm2
                clear hm1 hm2
                have st5 : St w s (k4 + 1) (w4.setCell ⟨w.heap.size + 1, 0, none⟩ (.int .i64 ((k4 : Nat) + 1))) := st_set hst4 (k4 + 1)
                go_wp2_with fail
                refine (sign_any w s (k4 + 1) _ hs (by omega) st5).mono ?_
                rintro e w6 ⟨rfl, k6, hk6, hS6, hst6⟩
                clear st5
                go_wp2_with fail
                refine (digits_any w s k6 _ hs hk6 hst6).mono ?_
                rintro e w7 ⟨k7, b7, rfl, hk7, hD7, hst7⟩
                clear hst6
                have hc71 := cell_of_one hst7.1
                have hc72 := cell_of_one hst7.2.1
                cases b7
                · go_wp2_with fail
                  go_ret
                  exact ⟨ret1 ((HE.out).trans (exp_no hlt4 HM.out hS6 hD7)).symm, hst7.2.2⟩
                · go_wp2_with fail
                  go_ret
                  exact ⟨ret1 ((HE.out).trans (exp_yes hlt4 HM.out hS6 hD7 hk7)).symm, hst7.2.2⟩
              · have hm1' : ((s[k4].toNat : Int) == 101) = false := by simpa using hm1
                have hm2' : ((s[k4].toNat : Int) == 69) = false := by simpa using hm2
                have hne : ((k4 : Int) == (s.size : Int)) = false := by simp; omega
                go_wp2_with fail
                go_ret
                exact ⟨ret1 ((HE.out).trans (exp_none hlt4 ⟨hm1, hm2⟩)).symm, hst4.2.2⟩
          · have hlt' : decide ((k4 : Int) < (s.size : Int)) = false := decide_eq_false (by omega)
            have hne : ((k4 : Int) == (s.size : Int)) = true := by simp; omega
            go_wp2_with fail
            go_ret
            exact ⟨ret1 ((HE.out).trans (exp_end hlt4)).symm, hst4.2.2⟩
      · have hd' : ((s[k2].toNat : Int) == 46) = false := by simpa using hd
        have HE : Hid (looksB s.data.toList = expPart (s.data.toList.drop k2)) := HL.out.trans (frac_none hlt hd)
        clear hd
        by_cases hlt4 : k2 < s.size
        · by_cases hm1 : (s[k2].toNat : Int) = 101
          · have hm1' : ((s[k2].toNat : Int) == 101) = true := by simpa using hm1
            have HM : Hid ((s[k2].toNat : Int) = 101 ∨ (s[k2].toNat : Int) = 69) := .inl hm1
            clear hm1
            have st5 : St w s (k2 + 1) (w2.setCell ⟨w.heap.size + 1, 0, none⟩ (.int .i64 ((k2 : Nat) + 1))) := st_set hst2 (k2 + 1)
            go_wp2_with fail
            refine (sign_any w s (k2 + 1) _ hs (by omega) st5).mono ?_
            rintro e w6 ⟨rfl, k6, hk6, hS6, hst6⟩
            clear st5
            go_wp2_with fail
            refine (digits_any w s k6 _ hs hk6 hst6).mono ?_
            rintro e w7 ⟨k7, b7, rfl, hk7, hD7, hst7⟩
            clear hst6
            have hc71 := cell_of_one hst7.1
            have hc72 := cell_of_one hst7.2.1
            cases b7
            · go_wp2_with fail
              go_ret
              exact ⟨ret1 ((HE.out).trans (exp_no hlt4 HM.out hS6 hD7)).symm, hst7.2.2⟩
            · go_wp2_with fail
              go_ret
              exact ⟨ret1 ((HE.out).trans (exp_yes hlt4 HM.out hS6 hD7 hk7)).symm, hst7.2.2⟩
          · by_cases hm2 : (s[k2].toNat : Int) = 69
            · have hm1' : ((s[k2].toNat : Int) == 101) = false := by simpa using hm1
              have hm2' : ((s[k2].toNat : Int) == 69) = true := by simpa using hm2
              have HM : Hid ((s[k2].toNat : Int) = 101 ∨ (s[k2].toNat : Int) = 69) := .inr hm2
              clear hm1 hm2
              have st5 : St w s (k2 + 1) (w2.setCell ⟨w.heap.size + 1, 0, none⟩ (.int .i64 ((k2 : Nat) + 1))) := st_set hst2 (k2 + 1)
              go_wp2_with fail
              refine (sign_any w s (k2 + 1) _ hs (by omega) st5).mono ?_
              rintro e w6 ⟨rfl, k6, hk6, hS6, hst6⟩
              clear st5
              go_wp2_with fail
              refine (digits_any w s k6 _ hs hk6 hst6).mono ?_
              rintro e w7 ⟨k7, b7, rfl, hk7, hD7, hst7⟩
              clear hst6
              have hc71 := cell_of_one hst7.1
              have hc72 := cell_of_one hst7.2.1
              cases b7
              · go_wp2_with fail
                go_ret
                exact ⟨ret1 ((HE.out).trans (exp_no hlt4 HM.out hS6 hD7)).symm, hst7.2.2⟩
              · go_wp2_with fail
                go_ret
                exact ⟨ret1 ((HE.out).trans (exp_yes hlt4 HM.out hS6 hD7 hk7)).symm, hst7.2.2⟩
            · have hm1' : ((s[k2].toNat : Int) == 101) = false := by simpa using hm1
              have hm2' : ((s[k2].toNat : Int) == 69) = false := by simpa using hm2
              have hne : ((k2 : Int) == (s.size : Int)) = false := by simp; omega
              go_wp2_with fail
              go_ret
              exact ⟨ret1 ((HE.out).trans (exp_none hlt4 ⟨hm1, hm2⟩)).symm, hst2.2.2⟩
        · exact absurd hlt hlt4
    · have HE : Hid (looksB s.data.toList = true) := HL.out.trans (frac_end hlt)
      have hlt' : decide ((k2 : Int) < (s.size : Int)) = false := decide_eq_false (by omega)
      have hne : ((k2 : Int) == (s.size : Int)) = true := by simp; omega
      go_wp2_with fail
      go_ret
      exact ⟨ret1 HE.out.symm, hst2.2.2⟩

end Go.Proofs.Qxb6618103a.Num
