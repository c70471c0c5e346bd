import Derived.Test.Qxb6618103aQeWalks
import Derived.WalkKit
import Derived.ProofKit
namespace Go.Proofs.Qxb6618103a.Qe
open Go.ChangeShapes Go.WideShapes Go.ChangeAt Go.RowKit

theorem size_app (a b : ByteArray) : (a ++ b).size = a.size + b.size := by simp [ByteArray.size_append]

theorem zzqe_shift (p s : ByteArray) (i : Nat) (w : World) (hs : p.size + s.size ≤ 4194304) (hi : i < s.size) :
    Calls Try.prog 18 #[.string (p ++ s), .int .i64 ((i : Int) + (p.size : Int))] w fun e w' => e = .returned (.tuple #[.int .i64 ((endAt s (i + 1) : Nat) + (p.size : Int)), .bool (okAt s (i + 1))]) ∧ w' = w := by
  have e1 : ((i : Int) + (p.size : Int)) = ((i + p.size : Nat) : Int) := by omega
  have h := at_shift p s (i + 1)
  have h' := zzqe_any (p ++ s) (i + p.size) w (by rw [size_app]; omega) (by rw [size_app]; omega)
  rw [show i + p.size + 1 = i + 1 + p.size from by omega, h.1, h.2] at h'
  rw [e1]
  exact h'

set_option maxHeartbeats 400000 in
theorem law6 (a0 : ByteArray) (a1 : ByteArray) (a2 : Int) (w0 : a0.size ≤ maxLen) (w1 : a1.size ≤ maxLen) (w : World) :
    Calls Try.prog 6 #[.string a0, .string a1, .int .i64 a2] w fun e w' => e = .returned (.bool true) ∧ w' = w := by
  by_cases hz : a0.size + a1.size ≤ 1048576
  · have hzz : Qe.zzB a0.size a1.size = true := Qe.zz_yes hz
    by_cases h0 : a0.size ≤ 524288
    · by_cases h1 : a1.size ≤ 524288
      · by_cases h2 : 0 ≤ a2 ∧ a2 < a1.size
        · obtain ⟨h20, h21⟩ := h2
          obtain ⟨i, rfl⟩ : ∃ i : Nat, a2 = i := ⟨a2.toNat, by omega⟩
          have hle : endAt a1 (i + 1) ≤ a1.size := end_le a1 (i + 1) (by omega)
          go_enter Try.func6, Try.ntmps6
          go_wp2_with (go_at_call 17; refine (Qe.zz17_any a0 a1 _ _ w0 w1).mono ?_; rintro e w' ⟨rfl, rfl⟩)
          refine (zzqe_any a1 i _ (by omega) (by omega)).mono ?_
          rintro e w' ⟨rfl, rfl⟩
          go_wp2_with fail
          refine (zzqe_shift a0 a1 i _ (by omega) (by omega)).mono ?_
          rintro e w' ⟨rfl, rfl⟩
          go_wp2_with fail
          refine (cm_any a1 i _ (by omega) (by omega)).mono ?_
          rintro e w' ⟨rfl, rfl⟩
          go_wp2_with fail
          go_ret
          exact ⟨rfl, rfl⟩
        · by_cases h3 : a2 < 0
          all_goals
            go_enter Try.func6, Try.ntmps6
            go_wp2_with (go_at_call 17; refine (Qe.zz17_any a0 a1 _ _ w0 w1).mono ?_; rintro e w' ⟨rfl, rfl⟩)
            go_ret
            exact ⟨rfl, rfl⟩
      · go_enter Try.func6, Try.ntmps6
        go_wp2_with (go_at_call 17; refine (Qe.zz17_any a0 a1 _ _ w0 w1).mono ?_; rintro e w' ⟨rfl, rfl⟩)
        go_ret
        exact ⟨rfl, rfl⟩
    · go_enter Try.func6, Try.ntmps6
      go_wp2_with (go_at_call 17; refine (Qe.zz17_any a0 a1 _ _ w0 w1).mono ?_; rintro e w' ⟨rfl, rfl⟩)
      go_ret
      exact ⟨rfl, rfl⟩
  · have hzz : Qe.zzB a0.size a1.size = false := Qe.zz_no hz
    go_enter Try.func6, Try.ntmps6
    go_wp2_with (go_at_call 17; refine (Qe.zz17_any a0 a1 _ _ w0 w1).mono ?_; rintro e w' ⟨rfl, rfl⟩)
    go_ret
    exact ⟨rfl, rfl⟩


theorem zzqe_ok (s t : ByteArray) (i : Nat) (w : World) (hs : s.size + t.size ≤ 4194304) (hi : i < s.size) (hok : okAt s (i + 1) = true) :
    Calls Try.prog 18 #[.string (s ++ t), .int .i64 i] w fun e w' => e = .returned (.tuple #[.int .i64 (endAt s (i + 1) : Nat), .bool true]) ∧ w' = w := by
  have h := follow_ok s t (i + 1) (by omega) hok
  have h' := zzqe_any (s ++ t) i w (by rw [size_app]; omega) (by rw [size_app]; omega)
  rw [h.1, h.2] at h'
  exact h'
theorem zzqe_late (s t : ByteArray) (i : Nat) (hs : s.size + t.size ≤ 4194304) (hi : i < s.size) (hok : okAt s (i + 1) = false) (hok2 : okAt (s ++ t) (i + 1) = true) :
    ∃ L : Nat, s.size < L ∧ L ≤ s.size + t.size ∧ ∀ w, Calls Try.prog 18 #[.string (s ++ t), .int .i64 i] w fun e w' => e = .returned (.tuple #[.int .i64 L, .bool true]) ∧ w' = w := by
  have h := follow_no s t (i + 1) (by omega) hok hok2
  have hl := end_le (s ++ t) (i + 1) (by rw [size_app]; omega)
  refine ⟨endAt (s ++ t) (i + 1), h, by rw [size_app] at hl; exact hl, fun w => ?_⟩
  have h' := zzqe_any (s ++ t) i w (by rw [size_app]; omega) (by rw [size_app]; omega)
  rw [hok2] at h'
  exact h'
theorem zzqe_never (s t : ByteArray) (i : Nat) (w : World) (hs : s.size + t.size ≤ 4194304) (hi : i < s.size) (hok2 : okAt (s ++ t) (i + 1) = false) :
    Calls Try.prog 18 #[.string (s ++ t), .int .i64 i] w fun e w' => e = .returned (.tuple #[.int .i64 ((s.size : Int) + (t.size : Int)), .bool false]) ∧ w' = w := by
  have h := follow_none s t (i + 1) hok2
  have h' := zzqe_any (s ++ t) i w (by rw [size_app]; omega) (by rw [size_app]; omega)
  rw [h, hok2] at h'
  exact h'

set_option maxHeartbeats 800000 in
theorem law7 (a0 : ByteArray) (a1 : ByteArray) (a2 : Int) (w0 : a0.size ≤ maxLen) (w1 : a1.size ≤ maxLen) (w : World) :
    Calls Try.prog 7 #[.string a0, .string a1, .int .i64 a2] w fun e w' => e = .returned (.bool true) ∧ w' = w := by
  by_cases hz : a0.size + a1.size ≤ 1048576
  · have hzz : Qe.zzB a0.size a1.size = true := Qe.zz_yes hz
    by_cases h0 : a0.size ≤ 524288
    · by_cases h1 : a1.size ≤ 524288
      · by_cases h2 : 0 ≤ a2 ∧ a2 < a0.size
        · obtain ⟨h20, h21⟩ := h2
          obtain ⟨i, rfl⟩ : ∃ i : Nat, a2 = i := ⟨a2.toNat, by omega⟩
          have hle : endAt a0 (i + 1) ≤ a0.size := end_le a0 (i + 1) (by omega)
          cases hok : okAt a0 (i + 1)
          · cases hok2 : okAt (a0 ++ a1) (i + 1)
            · go_enter Try.func7, Try.ntmps7
              go_wp2_with (go_at_call 20; refine (Qe.zz20_any a0 a1 _ _ w0 w1).mono ?_; rintro e w' ⟨rfl, rfl⟩)
              refine (zzqe_any a0 i _ (by omega) (by omega)).mono ?_
              rintro e w' ⟨rfl, rfl⟩
              go_wp2_with fail
              refine (zzqe_never a0 a1 i _ (by omega) (by omega) hok2).mono ?_
              rintro e w' ⟨rfl, rfl⟩
              go_wp2_with fail
              refine (cm_any a0 i _ (by omega) (by omega)).mono ?_
              rintro e w' ⟨rfl, rfl⟩
              go_wp2_with fail
              go_ret
              exact ⟨rfl, rfl⟩
            · obtain ⟨L, hL1, hL2, hC⟩ := zzqe_late a0 a1 i (by omega) (by omega) hok hok2
              have HC : Hid (∀ w, Calls Try.prog 18 #[.string (a0 ++ a1), .int .i64 i] w fun e w' => e = .returned (.tuple #[.int .i64 L, .bool true]) ∧ w' = w) := hC
              clear hC hok2
              go_enter Try.func7, Try.ntmps7
              go_wp2_with (go_at_call 20; refine (Qe.zz20_any a0 a1 _ _ w0 w1).mono ?_; rintro e w' ⟨rfl, rfl⟩)
              refine (zzqe_any a0 i _ (by omega) (by omega)).mono ?_
              rintro e w' ⟨rfl, rfl⟩
              go_wp2_with fail
              refine (HC.out _).mono ?_
              rintro e w' ⟨rfl, rfl⟩
              go_wp2_with fail
              refine (cm_any a0 i _ (by omega) (by omega)).mono ?_
              rintro e w' ⟨rfl, rfl⟩
              go_wp2_with fail
              go_ret
              exact ⟨rfl, rfl⟩
          · go_enter Try.func7, Try.ntmps7
            go_wp2_with (go_at_call 20; refine (Qe.zz20_any a0 a1 _ _ w0 w1).mono ?_; rintro e w' ⟨rfl, rfl⟩)
            refine (zzqe_any a0 i _ (by omega) (by omega)).mono ?_
            rintro e w' ⟨rfl, rfl⟩
            go_wp2_with fail
            refine (zzqe_ok a0 a1 i _ (by omega) (by omega) hok).mono ?_
            rintro e w' ⟨rfl, rfl⟩
            go_wp2_with fail
            refine (cm_any a0 i _ (by omega) (by omega)).mono ?_
            rintro e w' ⟨rfl, rfl⟩
            go_wp2_with fail
            go_ret
            exact ⟨rfl, rfl⟩
        · by_cases h3 : a2 < 0
          all_goals
            go_enter Try.func7, Try.ntmps7
            go_wp2_with (go_at_call 20; refine (Qe.zz20_any a0 a1 _ _ w0 w1).mono ?_; rintro e w' ⟨rfl, rfl⟩)
            go_ret
            exact ⟨rfl, rfl⟩
      · go_enter Try.func7, Try.ntmps7
        go_wp2_with (go_at_call 20; refine (Qe.zz20_any a0 a1 _ _ w0 w1).mono ?_; rintro e w' ⟨rfl, rfl⟩)
        go_ret
        exact ⟨rfl, rfl⟩
    · go_enter Try.func7, Try.ntmps7
      go_wp2_with (go_at_call 20; refine (Qe.zz20_any a0 a1 _ _ w0 w1).mono ?_; rintro e w' ⟨rfl, rfl⟩)
      go_ret
      exact ⟨rfl, rfl⟩
  · have hzz : Qe.zzB a0.size a1.size = false := Qe.zz_no hz
    go_enter Try.func7, Try.ntmps7
    go_wp2_with (go_at_call 20; refine (Qe.zz20_any a0 a1 _ _ w0 w1).mono ?_; rintro e w' ⟨rfl, rfl⟩)
    go_ret
    exact ⟨rfl, rfl⟩

end Go.Proofs.Qxb6618103a.Qe
