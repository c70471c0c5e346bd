import Derived.Test.Qxb6618103aNumLooks
import Derived.WalkKit
import Derived.ProofKit
namespace Go.Proofs.Qxb6618103a.Num
open Go.RowKit

theorem grown_trans {a b c : World} (h : Grown a b) (k : Grown b c) : Grown a c :=
  ⟨World.keptBut_trans h.1 k.1, fun x => (k.2.1 x).trans (h.2.1 x), Nat.le_trans h.2.2 k.2.2⟩

set_option maxHeartbeats 400000 in
theorem zzlooks_any (s : ByteArray) (w : World) (hs : s.size ≤ 4194304) :
    Calls Try.prog 9 #[.string s] w fun e w' => e = .returned (.bool (autB s.data.toList)) ∧ Grown w w' := by
  have HA : Hid (looksB s.data.toList = autB s.data.toList) := looks_aut _
  go_enter Try.func9, Try.ntmps9
  go_wp2_with fail
  refine (looks_any s _ hs).mono ?_
  rintro e w1 ⟨rfl, hg⟩
  go_wp2_with fail
  go_ret
  exact ⟨ret1 HA.out, hg⟩

set_option maxHeartbeats 400000 in
theorem law3 (a0 : ByteArray) (w0 : a0.size ≤ maxLen) (w : World) :
    Calls Try.prog 3 #[.string a0] w fun e w' => e = .returned (.bool true) ∧ Grown w w' := by
  by_cases hz : a0.size ≤ 1048576
  · have hzz : zz1 a0.size = true := zz1_yes hz
    go_enter Try.func3, Try.ntmps3
    go_wp2_with (go_at_call 8; refine (zz8_any a0 _ w0).mono ?_; rintro e w' ⟨rfl, rfl⟩)
    refine (zzlooks_any a0 _ (by omega)).mono ?_
    rintro e w1 ⟨rfl, hg⟩
    go_wp2_with fail
    refine (aut_any a0 _ (by omega)).mono ?_
    rintro e w' ⟨rfl, rfl⟩
    go_wp2_with fail
    go_ret
    exact ⟨rfl, hg⟩
  · have hzz : zz1 a0.size = false := zz1_no hz
    go_enter Try.func3, Try.ntmps3
    go_wp2_with (go_at_call 8; refine (zz8_any a0 _ w0).mono ?_; rintro e w' ⟨rfl, rfl⟩)
    go_ret
    exact ⟨rfl, Grown.refl _⟩

theorem join_list (a b : ByteArray) : (a ++ { data := #[101] } ++ b : ByteArray).data.toList = a.data.toList ++ 101 :: b.data.toList := by
  simp [ByteArray.data_append]
theorem join_size (a b : ByteArray) : (a ++ { data := #[101] } ++ b : ByteArray).size = a.size + 1 + b.size := by
  simp [ByteArray.size_append]; rfl
theorem zzj_any (a b : ByteArray) (v : Bool) (w : World) (hv : autB (a.data.toList ++ 101 :: b.data.toList) = v) (hs : a.size + b.size ≤ 1048576) :
    Calls Try.prog 9 #[.string (a ++ { data := #[101] } ++ b)] w fun e w' => e = .returned (.bool v) ∧ Grown w w' := by
  have h := zzlooks_any (a ++ { data := #[101] } ++ b) w (by rw [join_size]; omega)
  rw [join_list, hv] at h
  exact h
theorem has101 (s : ByteArray) (w : World) (hs : s.size ≤ 4194304) : Calls Try.prog 12 #[.string s, .int .u8 101] w fun e w' => e = .returned (.bool (hasB 101 s.data.toList)) ∧ w' = w := has_any s 101 w hs
theorem has69 (s : ByteArray) (w : World) (hs : s.size ≤ 4194304) : Calls Try.prog 12 #[.string s, .int .u8 69] w fun e w' => e = .returned (.bool (hasB 69 s.data.toList)) ∧ w' = w := has_any s 69 w hs
theorem has46 (s : ByteArray) (w : World) (hs : s.size ≤ 4194304) : Calls Try.prog 12 #[.string s, .int .u8 46] w fun e w' => e = .returned (.bool (hasB 46 s.data.toList)) ∧ w' = w := has_any s 46 w hs

set_option maxHeartbeats 2000000 in
theorem law4 (a0 a1 : ByteArray) (w0 : a0.size ≤ maxLen) (w1 : a1.size ≤ maxLen) (w : World) :
    Calls Try.prog 4 #[.string a0, .string a1] w fun e w' => e = .returned (.bool true) ∧ Grown w w' := by
  by_cases hz : a0.size + a1.size ≤ 1048576
  · have hzz : zzB a0.size a1.size = true := zz_yes hz
    by_cases h0 : a0.size ≤ 524288
    · by_cases h1 : a1.size ≤ 524288
      · cases hm : autB a0.data.toList
        · have HJ : Hid (autB (a0.data.toList ++ 101 :: a1.data.toList) = false) := by show _ = _; rw [aut_join]; simp [hm]
          go_enter Try.func4, Try.ntmps4
          go_wp2_with (go_at_call 11; refine (zz11_any a0 a1 _ w0 w1).mono ?_; rintro e w' ⟨rfl, rfl⟩)
          refine (zzlooks_any a0 _ (by omega)).mono ?_
          rintro e w1 ⟨rfl, hg1⟩
          go_wp2_with fail
          refine (zzlooks_any a1 _ (by omega)).mono ?_
          rintro e w2 ⟨rfl, hg2⟩
          go_wp2_with fail
          refine (zzj_any a0 a1 _ _ HJ.out (by omega)).mono ?_
          rintro e w3 ⟨rfl, hg3⟩
          go_wp2_with fail
          refine (aut_any a0 _ (by omega)).mono ?_
          rintro e w' ⟨rfl, rfl⟩
          go_wp2_with fail
          go_ret
          exact ⟨rfl, grown_trans hg1 (grown_trans hg2 hg3)⟩
        · cases he : hasB 101 a0.data.toList
          · cases hE : hasB 69 a0.data.toList
            · cases hx : autB a1.data.toList
              · have HJ : Hid (autB (a0.data.toList ++ 101 :: a1.data.toList) = false) := by show _ = _; rw [aut_join]; simp [hm, he, hE, hx]
                go_enter Try.func4, Try.ntmps4
                go_wp2_with (go_at_call 11; refine (zz11_any a0 a1 _ w0 w1).mono ?_; rintro e w' ⟨rfl, rfl⟩)
                refine (zzlooks_any a0 _ (by omega)).mono ?_
                rintro e w1 ⟨rfl, hg1⟩
                go_wp2_with fail
                refine (zzlooks_any a1 _ (by omega)).mono ?_
                rintro e w2 ⟨rfl, hg2⟩
                go_wp2_with fail
                refine (zzj_any a0 a1 _ _ HJ.out (by omega)).mono ?_
                rintro e w3 ⟨rfl, hg3⟩
                go_wp2_with fail
                refine (has101 a0 _ (by omega)).mono ?_
                rintro e w' ⟨rfl, rfl⟩
                go_wp2_with fail
                refine (has69 a0 _ (by omega)).mono ?_
                rintro e w' ⟨rfl, rfl⟩
                go_wp2_with fail
                refine (aut_any a0 _ (by omega)).mono ?_
                rintro e w' ⟨rfl, rfl⟩
                go_wp2_with fail
                go_ret
                exact ⟨rfl, grown_trans hg1 (grown_trans hg2 hg3)⟩
              · cases hd : hasB 46 a1.data.toList
                · cases hf : hasB 101 a1.data.toList
                  · cases hF : hasB 69 a1.data.toList
                    · have HJ : Hid (autB (a0.data.toList ++ 101 :: a1.data.toList) = true) := by show _ = _; rw [aut_join]; simp [hm, he, hE, hx, hd, hf, hF]
                      go_enter Try.func4, Try.ntmps4
                      go_wp2_with (go_at_call 11; refine (zz11_any a0 a1 _ w0 w1).mono ?_; rintro e w' ⟨rfl, rfl⟩)
                      refine (zzlooks_any a0 _ (by omega)).mono ?_
                      rintro e w1 ⟨rfl, hg1⟩
                      go_wp2_with fail
                      refine (zzlooks_any a1 _ (by omega)).mono ?_
                      rintro e w2 ⟨rfl, hg2⟩
                      go_wp2_with fail
                      refine (zzj_any a0 a1 _ _ HJ.out (by omega)).mono ?_
                      rintro e w3 ⟨rfl, hg3⟩
                      go_wp2_with fail
                      refine (has101 a0 _ (by omega)).mono ?_
                      rintro e w' ⟨rfl, rfl⟩
                      go_wp2_with fail
                      refine (has69 a0 _ (by omega)).mono ?_
                      rintro e w' ⟨rfl, rfl⟩
                      go_wp2_with fail
                      refine (has46 a1 _ (by omega)).mono ?_
                      rintro e w' ⟨rfl, rfl⟩
                      go_wp2_with fail
                      refine (has101 a1 _ (by omega)).mono ?_
                      rintro e w' ⟨rfl, rfl⟩
                      go_wp2_with fail
                      refine (has69 a1 _ (by omega)).mono ?_
                      rintro e w' ⟨rfl, rfl⟩
                      go_wp2_with fail
                      refine (aut_any a0 _ (by omega)).mono ?_
                      rintro e w' ⟨rfl, rfl⟩
                      go_wp2_with fail
                      go_ret
                      exact ⟨rfl, grown_trans hg1 (grown_trans hg2 hg3)⟩
                    · have HJ : Hid (autB (a0.data.toList ++ 101 :: a1.data.toList) = false) := by show _ = _; rw [aut_join]; simp [hm, he, hE, hx, hd, hf, hF]
                      go_enter Try.func4, Try.ntmps4
                      go_wp2_with (go_at_call 11; refine (zz11_any a0 a1 _ w0 w1).mono ?_; rintro e w' ⟨rfl, rfl⟩)
                      refine (zzlooks_any a0 _ (by omega)).mono ?_
                      rintro e w1 ⟨rfl, hg1⟩
                      go_wp2_with fail
                      refine (zzlooks_any a1 _ (by omega)).mono ?_
                      rintro e w2 ⟨rfl, hg2⟩
                      go_wp2_with fail
                      refine (zzj_any a0 a1 _ _ HJ.out (by omega)).mono ?_
                      rintro e w3 ⟨rfl, hg3⟩
                      go_wp2_with fail
                      refine (has101 a0 _ (by omega)).mono ?_
                      rintro e w' ⟨rfl, rfl⟩
                      go_wp2_with fail
                      refine (has69 a0 _ (by omega)).mono ?_
                      rintro e w' ⟨rfl, rfl⟩
                      go_wp2_with fail
                      refine (has46 a1 _ (by omega)).mono ?_
                      rintro e w' ⟨rfl, rfl⟩
                      go_wp2_with fail
                      refine (has101 a1 _ (by omega)).mono ?_
                      rintro e w' ⟨rfl, rfl⟩
                      go_wp2_with fail
                      refine (has69 a1 _ (by omega)).mono ?_
                      rintro e w' ⟨rfl, rfl⟩
                      go_wp2_with fail
                      refine (aut_any a0 _ (by omega)).mono ?_
                      rintro e w' ⟨rfl, rfl⟩
                      go_wp2_with fail
                      go_ret
                      exact ⟨rfl, grown_trans hg1 (grown_trans hg2 hg3)⟩
                  · have HJ : Hid (autB (a0.data.toList ++ 101 :: a1.data.toList) = false) := by show _ = _; rw [aut_join]; simp [hm, he, hE, hx, hd, hf]
                    go_enter Try.func4, Try.ntmps4
                    go_wp2_with (go_at_call 11; refine (zz11_any a0 a1 _ w0 w1).mono ?_; rintro e w' ⟨rfl, rfl⟩)
                    refine (zzlooks_any a0 _ (by omega)).mono ?_
                    rintro e w1 ⟨rfl, hg1⟩
                    go_wp2_with fail
                    refine (zzlooks_any a1 _ (by omega)).mono ?_
                    rintro e w2 ⟨rfl, hg2⟩
                    go_wp2_with fail
                    refine (zzj_any a0 a1 _ _ HJ.out (by omega)).mono ?_
                    rintro e w3 ⟨rfl, hg3⟩
                    go_wp2_with fail
                    refine (has101 a0 _ (by omega)).mono ?_
                    rintro e w' ⟨rfl, rfl⟩
                    go_wp2_with fail
                    refine (has69 a0 _ (by omega)).mono ?_
                    rintro e w' ⟨rfl, rfl⟩
                    go_wp2_with fail
                    refine (has46 a1 _ (by omega)).mono ?_
                    rintro e w' ⟨rfl, rfl⟩
                    go_wp2_with fail
                    refine (has101 a1 _ (by omega)).mono ?_
                    rintro e w' ⟨rfl, rfl⟩
                    go_wp2_with fail
                    refine (aut_any a0 _ (by omega)).mono ?_
                    rintro e w' ⟨rfl, rfl⟩
                    go_wp2_with fail
                    go_ret
                    exact ⟨rfl, grown_trans hg1 (grown_trans hg2 hg3)⟩
                · have HJ : Hid (autB (a0.data.toList ++ 101 :: a1.data.toList) = false) := by show _ = _; rw [aut_join]; simp [hm, he, hE, hx, hd]
                  go_enter Try.func4, Try.ntmps4
                  go_wp2_with (go_at_call 11; refine (zz11_any a0 a1 _ w0 w1).mono ?_; rintro e w' ⟨rfl, rfl⟩)
                  refine (zzlooks_any a0 _ (by omega)).mono ?_
                  rintro e w1 ⟨rfl, hg1⟩
                  go_wp2_with fail
                  refine (zzlooks_any a1 _ (by omega)).mono ?_
                  rintro e w2 ⟨rfl, hg2⟩
                  go_wp2_with fail
                  refine (zzj_any a0 a1 _ _ HJ.out (by omega)).mono ?_
                  rintro e w3 ⟨rfl, hg3⟩
                  go_wp2_with fail
                  refine (has101 a0 _ (by omega)).mono ?_
                  rintro e w' ⟨rfl, rfl⟩
                  go_wp2_with fail
                  refine (has69 a0 _ (by omega)).mono ?_
                  rintro e w' ⟨rfl, rfl⟩
                  go_wp2_with fail
                  refine (has46 a1 _ (by omega)).mono ?_
                  rintro e w' ⟨rfl, rfl⟩
                  go_wp2_with fail
                  refine (aut_any a0 _ (by omega)).mono ?_
                  rintro e w' ⟨rfl, rfl⟩
                  go_wp2_with fail
                  go_ret
                  exact ⟨rfl, grown_trans hg1 (grown_trans hg2 hg3)⟩
            · have HJ : Hid (autB (a0.data.toList ++ 101 :: a1.data.toList) = false) := by show _ = _; rw [aut_join]; simp [hm, he, hE]
              go_enter Try.func4, Try.ntmps4
              go_wp2_with (go_at_call 11; refine (zz11_any a0 a1 _ w0 w1).mono ?_; rintro e w' ⟨rfl, rfl⟩)
              refine (zzlooks_any a0 _ (by omega)).mono ?_
              rintro e w1 ⟨rfl, hg1⟩
              go_wp2_with fail
              refine (zzlooks_any a1 _ (by omega)).mono ?_
              rintro e w2 ⟨rfl, hg2⟩
              go_wp2_with fail
              refine (zzj_any a0 a1 _ _ HJ.out (by omega)).mono ?_
              rintro e w3 ⟨rfl, hg3⟩
              go_wp2_with fail
              refine (has101 a0 _ (by omega)).mono ?_
              rintro e w' ⟨rfl, rfl⟩
              go_wp2_with fail
              refine (has69 a0 _ (by omega)).mono ?_
              rintro e w' ⟨rfl, rfl⟩
              go_wp2_with fail
              refine (aut_any a0 _ (by omega)).mono ?_
              rintro e w' ⟨rfl, rfl⟩
              go_wp2_with fail
              go_ret
              exact ⟨rfl, grown_trans hg1 (grown_trans hg2 hg3)⟩
          · have HJ : Hid (autB (a0.data.toList ++ 101 :: a1.data.toList) = false) := by show _ = _; rw [aut_join]; simp [hm, he]
            go_enter Try.func4, Try.ntmps4
            go_wp2_with (go_at_call 11; refine (zz11_any a0 a1 _ w0 w1).mono ?_; rintro e w' ⟨rfl, rfl⟩)
            refine (zzlooks_any a0 _ (by omega)).mono ?_
            rintro e w1 ⟨rfl, hg1⟩
            go_wp2_with fail
            refine (zzlooks_any a1 _ (by omega)).mono ?_
            rintro e w2 ⟨rfl, hg2⟩
            go_wp2_with fail
            refine (zzj_any a0 a1 _ _ HJ.out (by omega)).mono ?_
            rintro e w3 ⟨rfl, hg3⟩
            go_wp2_with fail
            refine (has101 a0 _ (by omega)).mono ?_
            rintro e w' ⟨rfl, rfl⟩
            go_wp2_with fail
            refine (aut_any a0 _ (by omega)).mono ?_
            rintro e w' ⟨rfl, rfl⟩
            go_wp2_with fail
            go_ret
            exact ⟨rfl, grown_trans hg1 (grown_trans hg2 hg3)⟩
      · go_enter Try.func4, Try.ntmps4
        go_wp2_with (go_at_call 11; refine (zz11_any a0 a1 _ w0 w1).mono ?_; rintro e w' ⟨rfl, rfl⟩)
        go_ret
        exact ⟨rfl, Grown.refl _⟩
    · go_enter Try.func4, Try.ntmps4
      go_wp2_with (go_at_call 11; refine (zz11_any a0 a1 _ w0 w1).mono ?_; rintro e w' ⟨rfl, rfl⟩)
      go_ret
      exact ⟨rfl, Grown.refl _⟩
  · have hzz : zzB a0.size a1.size = false := zz_no hz
    go_enter Try.func4, Try.ntmps4
    go_wp2_with (go_at_call 11; refine (zz11_any a0 a1 _ w0 w1).mono ?_; rintro e w' ⟨rfl, rfl⟩)
    go_ret
    exact ⟨rfl, Grown.refl _⟩

end Go.Proofs.Qxb6618103a.Num
