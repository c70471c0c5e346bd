import Derived.Test.Qxb6618103aIdWalks
import Derived.Lib.Strings
import Derived.ProofKit
namespace Go.Proofs.Qxb6618103a.Idn
open Go.RowKit

theorem empty_yes {s : ByteArray} (h : s.size = 0) : s.toList.isEmpty = true := by
  rw [list_data, List.isEmpty_iff]; exact List.eq_nil_of_length_eq_zero (by simpa using h)
theorem empty_no {s : ByteArray} (h : 0 < s.size) : s.toList.isEmpty = false := by
  rw [list_data]
  cases hd : s.data.toList with
  | nil => have h1 : s.data.toList.length = 0 := by rw [hd]; rfl
           have h2 : s.data.toList.length = s.size := by simp
           omega
  | cons c l => rfl
theorem split_at {s : ByteArray} (h : 0 < s.size) : s.data.toList = s[0] :: s.data.toList.drop 1 := by
  have e := List.drop_eq_getElem_cons (l := s.data.toList) (i := 0) (by simpa using h)
  rw [List.drop_zero] at e
  exact e
theorem cut_one (s : ByteArray) : (s.extract 1 s.size).data.toList = s.data.toList.drop 1 := by
  rw [Lib.extract_data, List.take_of_length_le (by simp)]
theorem id_empty {s : ByteArray} (h : s.size = 0) : idB s.data.toList = false := by
  rw [show s.data.toList = [] from List.eq_nil_of_length_eq_zero (by simpa using h)]; rfl
theorem id_no {s : ByteArray} (h : 0 < s.size) (hc : headB s[0] = false) : idB s.data.toList = false := by
  rw [split_at h]; simp [idB, preB, hc]
theorem id_yes {s : ByteArray} (h : 0 < s.size) (hc : headB s[0] = true) : idB s.data.toList = atB (s.extract 1 s.size).data.toList := by
  rw [cut_one, split_at h]; simp [idB, preB, hc, atB]
theorem head_letter {c : UInt8} (h : letterB c = true) : headB c = true := by simp [headB, h]
theorem head_under {c : UInt8} (h : letterB c = false) (h' : headB c = true) : ((c.toNat : Int) == 95) = true := by
  simp [headB, h] at h'; simp; omega
theorem head_not {c : UInt8} (h' : headB c = false) : ((c.toNat : Int) == 95) = false := by
  simp [headB] at h'; simp; omega

theorem allTail_cut (s : ByteArray) (w : World) {v : Bool} (hs : (s.extract 1 s.size).size ≤ 4194304) (hv : atB (s.extract 1 s.size).data.toList = v) :
    Calls Try.prog 16 #[.string (s.extract 1 s.size)] w fun e w' => e = .returned (.bool v) ∧ w' = w := by
  have h := allTail_any (s.extract 1 s.size) w hs
  rw [hv] at h
  exact h

set_option maxHeartbeats 400000 in
theorem model_any (s : ByteArray) (w : World) (hs : s.size ≤ 4194304) :
    Calls Try.prog 15 #[.string s] w fun e w' => e = .returned (.bool (idB s.data.toList)) ∧ w' = w := by
  by_cases h0 : s.size = 0
  · have he : s.toList.isEmpty = true := empty_yes h0
    have hE : Hid (idB s.data.toList = false) := id_empty h0
    clear h0
    go_enter Try.func15, Try.ntmps15
    go_wp2
    go_ret
    exact ⟨ret1 hE.out.symm, rfl⟩
  · have hp : 0 < s.size := by omega
    have he : s.toList.isEmpty = false := empty_no hp
    have hx : Hid ((s.extract 1 s.size).size ≤ 4194304) := by show _ ≤ _; rw [ByteArray.size_extract]; omega
    clear h0
    cases hl : letterB s[0]
    · cases hu : headB s[0]
      · have hu' : ((s[0].toNat : Int) == 95) = false := head_not hu
        have hE : Hid (idB s.data.toList = false) := id_no hp hu
        go_enter Try.func15, Try.ntmps15
        go_wp2_with fail
        refine (letter_any s[0] _).mono ?_
        rintro e w' ⟨rfl, rfl⟩
        go_wp2_with fail
        go_ret
        exact ⟨ret1 hE.out.symm, rfl⟩
      · have hu' : ((s[0].toNat : Int) == 95) = true := head_under hl hu
        have hE : Hid (idB s.data.toList = atB (s.extract 1 s.size).data.toList) := id_yes hp hu
        go_enter Try.func15, Try.ntmps15
        go_wp2_with fail
        refine (letter_any s[0] _).mono ?_
        rintro e w' ⟨rfl, rfl⟩
        go_wp2_with fail
        refine (allTail_cut s _ hx.out hE.out.symm).mono ?_
        rintro e w' ⟨rfl, rfl⟩
        go_wp2_with fail
        go_ret
        exact ⟨rfl, rfl⟩
    · have hE : Hid (idB s.data.toList = atB (s.extract 1 s.size).data.toList) := id_yes hp (head_letter hl)
      go_enter Try.func15, Try.ntmps15
      go_wp2_with fail
      refine (letter_any s[0] _).mono ?_
      rintro e w' ⟨rfl, rfl⟩
      go_wp2_with fail
      refine (allTail_cut s _ hx.out hE.out.symm).mono ?_
      rintro e w' ⟨rfl, rfl⟩
      go_wp2_with fail
      go_ret
      exact ⟨rfl, rfl⟩

def zzB (a b : Nat) : Bool := decide (a + b ≤ 1048576)
theorem zz_no {a b : Nat} (h : ¬ a + b ≤ 1048576) : zzB a b = false := decide_eq_false h
theorem zz_yes {a b : Nat} (h : a + b ≤ 1048576) : zzB a b = true := decide_eq_true h
set_option maxHeartbeats 400000 in
theorem zz13_any (p t : ByteArray) (w : World) (hp : p.size ≤ maxLen) (ht : t.size ≤ maxLen) :
    Calls Try.prog 13 #[.string p, .string t] w fun e w' => e = .returned (.bool (zzB p.size t.size)) ∧ w' = w := by
  unfold maxLen at hp ht
  go_enter Try.func13, Try.ntmps13
  go_wp2
  all_goals go_ret
  all_goals first | exact ⟨ret1 (zz_no (by omega)).symm, rfl⟩ | exact ⟨ret1 (zz_yes (by omega)).symm, rfl⟩

theorem under_list (b : ByteArray) : ({ data := #[95] } ++ b : ByteArray).data.toList = 95 :: b.data.toList := by
  simp [ByteArray.data_append]
theorem under_size (b : ByteArray) : ({ data := #[95] } ++ b : ByteArray).size = 1 + b.size := by
  simp [ByteArray.size_append]; rfl
theorem app_list (a b : ByteArray) : (a ++ b).data.toList = a.data.toList ++ b.data.toList := by
  simp [ByteArray.data_append]
theorem app_size (a b : ByteArray) : (a ++ b).size = a.size + b.size := by simp [ByteArray.size_append]

theorem zz_under (b : ByteArray) (w : World) (hs : b.size ≤ 1048576) :
    Calls Try.prog 14 #[.string ({ data := #[95] } ++ b)] w fun e w' => e = .returned (.bool (atB b.data.toList)) ∧ w' = w := by
  have h := zzident_any ({ data := #[95] } ++ b) w (by rw [under_size]; omega)
  rw [under_list, id_tail] at h
  exact h
theorem zz_both (a b : ByteArray) (v : Bool) (w : World) (hs : a.size + b.size ≤ 1048576) (hv : idB (a.data.toList ++ b.data.toList) = v) :
    Calls Try.prog 14 #[.string (a ++ b)] w fun e w' => e = .returned (.bool v) ∧ w' = w := by
  have h := zzident_any (a ++ b) w (by rw [app_size]; omega)
  rw [app_list, hv] at h
  exact h
theorem both_empty {a b : ByteArray} (h : a.size = 0) : idB (a.data.toList ++ b.data.toList) = idB b.data.toList := by
  rw [show a.data.toList = [] from List.eq_nil_of_length_eq_zero (by simpa using h)]; rfl
theorem both_not {a b : ByteArray} (h : 0 < a.size) : idB (a.data.toList ++ b.data.toList) = (idB a.data.toList && atB b.data.toList) := by
  have := empty_no h
  rw [list_data] at this
  rw [id_append, this, id_tail]; simp [atB]

set_option maxHeartbeats 1000000 in
theorem law5 (a0 a1 : ByteArray) (w0 : a0.size ≤ maxLen) (w1 : a1.size ≤ maxLen) (w : World) :
    Calls Try.prog 5 #[.string a0, .string a1] w fun e w' => e = .returned (.bool true) ∧ w' = w := by
  by_cases hz : a0.size + a1.size ≤ 1048576
  · have hzz : zzB a0.size a1.size = true := zz_yes hz
    by_cases h0 : a0.size ≤ 524288
    · by_cases h1 : a1.size ≤ 524288
      · by_cases hn : a0.size = 0
        · have he : a0.toList.isEmpty = true := empty_yes hn
          have hv : Hid (idB (a0.data.toList ++ a1.data.toList) = idB a1.data.toList) := both_empty hn
          have hi : idB a0.data.toList = false := id_empty hn
          clear hn
          go_enter Try.func5, Try.ntmps5
          go_wp2_with (go_at_call 13; refine (zz13_any a0 a1 _ w0 w1).mono ?_; rintro e w' ⟨rfl, rfl⟩)
          refine (zzident_any a0 _ (by omega)).mono ?_
          rintro e w' ⟨rfl, rfl⟩
          go_wp2_with fail
          refine (zzident_any a1 _ (by omega)).mono ?_
          rintro e w' ⟨rfl, rfl⟩
          go_wp2_with fail
          refine (zz_under a1 _ (by omega)).mono ?_
          rintro e w' ⟨rfl, rfl⟩
          go_wp2_with fail
          refine (zz_both a0 a1 _ _ hz hv.out).mono ?_
          rintro e w' ⟨rfl, rfl⟩
          go_wp2_with fail
          refine (model_any a0 _ (by omega)).mono ?_
          rintro e w' ⟨rfl, rfl⟩
          go_wp2_with fail
          refine (allTail_any a1 _ (by omega)).mono ?_
          rintro e w' ⟨rfl, rfl⟩
          go_wp2_with fail
          go_ret
          exact ⟨rfl, rfl⟩
        · have hp : 0 < a0.size := by omega
          have he : a0.toList.isEmpty = false := empty_no hp
          clear hn
          cases hi : idB a0.data.toList
          all_goals
            have hv : Hid (idB (a0.data.toList ++ a1.data.toList) = (idB a0.data.toList && atB a1.data.toList)) := both_not hp
            rw [hi] at hv
            simp only [Bool.false_and, Bool.true_and] at hv
            go_enter Try.func5, Try.ntmps5
            go_wp2_with (go_at_call 13; refine (zz13_any a0 a1 _ w0 w1).mono ?_; rintro e w' ⟨rfl, rfl⟩)
            refine (zzident_any a0 _ (by omega)).mono ?_
            rintro e w' ⟨rfl, rfl⟩
            go_wp2_with fail
            refine (zzident_any a1 _ (by omega)).mono ?_
            rintro e w' ⟨rfl, rfl⟩
            go_wp2_with fail
            refine (zz_under a1 _ (by omega)).mono ?_
            rintro e w' ⟨rfl, rfl⟩
            go_wp2_with fail
            refine (zz_both a0 a1 _ _ hz hv.out).mono ?_
            rintro e w' ⟨rfl, rfl⟩
            go_wp2_with fail
            refine (model_any a0 _ (by omega)).mono ?_
            rintro e w' ⟨rfl, rfl⟩
            go_wp2_with fail
            refine (allTail_any a1 _ (by omega)).mono ?_
            rintro e w' ⟨rfl, rfl⟩
            go_wp2_with fail
            go_ret
            exact ⟨rfl, rfl⟩
      · go_enter Try.func5, Try.ntmps5
        go_wp2_with (go_at_call 13; refine (zz13_any a0 a1 _ w0 w1).mono ?_; rintro e w' ⟨rfl, rfl⟩)
        go_ret
        exact ⟨rfl, rfl⟩
    · go_enter Try.func5, Try.ntmps5
      go_wp2_with (go_at_call 13; refine (zz13_any a0 a1 _ w0 w1).mono ?_; rintro e w' ⟨rfl, rfl⟩)
      go_ret
      exact ⟨rfl, rfl⟩
  · have hzz : zzB a0.size a1.size = false := zz_no hz
    go_enter Try.func5, Try.ntmps5
    go_wp2_with (go_at_call 13; refine (zz13_any a0 a1 _ w0 w1).mono ?_; rintro e w' ⟨rfl, rfl⟩)
    go_ret
    exact ⟨rfl, rfl⟩

end Go.Proofs.Qxb6618103a.Idn
