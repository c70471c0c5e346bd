import Derived.Test.Qxb6618103aRows
import Derived.Test.Qxb6618103aQePlain
import Derived.WalkKit
import Derived.WalkSpells
import Derived.WalkLawsBesides
namespace Go.Proofs.Qxb6618103a.Qe
open Go.RowKit

/-- The scan at k answers as the scan at the start. -/
def Same (s : ByteArray) (i k : Nat) : Prop := endAt s k = endAt s (i + 1) ∧ okAt s k = okAt s (i + 1)
def SameM (s : ByteArray) (i k : Nat) : Prop := endM s i k = endAt s (i + 1) ∧ okM s i k = okAt s (i + 1)

theorem ret2 {a b : Int} {x y : Bool} (h : a = b) (g : x = y) : Ending.returned (.tuple #[.int .i64 a, .bool x]) = .returned (.tuple #[.int .i64 b, .bool y]) := by rw [h, g]
theorem ret1 {x y : Bool} (h : x = y) : Ending.returned (.bool x) = .returned (.bool y) := by rw [h]
theorem byte_is {c : UInt8} {n : Nat} (hn : n < 256) (h : ((c.toNat : Int) == (n : Int)) = true) : c = UInt8.ofNat n := by
  have : c.toNat = n := by have h' : (c.toNat : Int) = (n : Int) := by simpa using h
                           omega
  rw [← UInt8.toNat_inj, this]; simp; omega
theorem byte_not {c : UInt8} {n : Nat} (hn : n < 256) (h : ((c.toNat : Int) == (n : Int)) = false) : c ≠ UInt8.ofNat n := by
  intro hc; subst hc; simp at h; omega

set_option maxHeartbeats 400000 in
theorem qe_any (s : ByteArray) (i : Nat) (w : World) (hs : s.size ≤ 4194304) (hi : i < s.size) :
    Calls Try.prog 26 #[.string s, .int .i64 i] w fun e w' => e = .returned (.tuple #[.int .i64 (endAt s (i + 1) : Nat), .bool (okAt s (i + 1))]) ∧ w' = w := by
  go_enter Try.func26, Try.ntmps26
  go_wp2
  go_loop [1] (fun t => ∃ k : Nat, k ≤ s.size + 1 ∧ t = .int .i64 k ∧ Same s i k) (fun t => s.size + 1 - (intOf t).toNat)
  case atStart => exact ⟨i + 1, by omega, by go_num, rfl, rfl⟩
  case round =>
    obtain ⟨k, hk, rfl, hS⟩ := hrel
    by_cases hlt : k < s.size
    · go_wp2
      · go_round
        case rel =>
          have h92 : s[k] = 92 := byte_is (n := 92) (by omega) (by assumption)
          have := at_slash s k hlt h92
          exact ⟨k + 2, by omega, by go_num, by rw [← this.1]; exact hS.1, by rw [← this.2]; exact hS.2⟩
        case measure => simp [intOf]; omega
      · go_ret2
        have h34 : s[k] = 34 := byte_is (n := 34) (by omega) (by assumption)
        have := at_quote s k hlt h34
        refine ⟨ret2 ?_ ?_, rfl⟩
        · rw [← hS.1, this.1]; rfl
        · rw [← hS.2, this.2]
      · go_round
        case rel =>
          have h92 : s[k] ≠ 92 := byte_not (n := 92) (by omega) (by assumption)
          have h34 : s[k] ≠ 34 := byte_not (n := 34) (by omega) (by assumption)
          have := at_other s k hlt h92 h34
          exact ⟨k + 1, by omega, by go_num, by rw [← this.1]; exact hS.1, by rw [← this.2]; exact hS.2⟩
        case measure => simp [intOf]; omega
    · go_wp2
      go_ret2
      have := at_past s k (by omega)
      refine ⟨ret2 ?_ ?_, rfl⟩
      · rw [← hS.1, this.1]
      · rw [← hS.2, this.2]

set_option maxHeartbeats 400000 in
theorem zzqe_any (s : ByteArray) (i : Nat) (w : World) (hs : s.size ≤ 4194304) (hi : i < s.size) :
    Calls Try.prog 18 #[.string s, .int .i64 i] w fun e w' => e = .returned (.tuple #[.int .i64 (endAt s (i + 1) : Nat), .bool (okAt s (i + 1))]) ∧ w' = w := by
  go_enter Try.func18, Try.ntmps18
  go_wp2_with (go_at_call 26; refine (qe_any s i _ hs hi).mono ?_; rintro e w' ⟨rfl, rfl⟩)
  go_ret2
  exact ⟨rfl, rfl⟩

/-- The inner loop's relation: r backslashes have been counted, k is the next place to look at. -/
def Run (s : ByteArray) (i j r k : Nat) : Prop := r + bs s i (k + 1) = bs s i j
theorem run_start (s : ByteArray) (i j : Nat) (h : 0 < j) : Run s i j 0 (j - 1) := by
  unfold Run; rw [show j - 1 + 1 = j from by omega]; omega
theorem run_le {s : ByteArray} {i j r k : Nat} (h : Run s i j r k) : r ≤ j := by
  unfold Run at h; have := bs_le s i j; omega
theorem run_yes {s : ByteArray} {i j r k : Nat} (hk : k < s.size) (hi : i < k) (hb : s[k] = 92) (h : Run s i j r k) : Run s i j (r + 1) (k - 1) := by
  unfold Run at h ⊢; rw [bs_yes s i k hk hi hb] at h; rw [show k - 1 + 1 = k from by omega]; omega
theorem run_no {s : ByteArray} {i j r k : Nat} (hk : k < s.size) (hb : s[k] ≠ 92) (h : Run s i j r k) : r = bs s i j := by
  unfold Run at h; rw [bs_no s i k hk hb] at h; omega
theorem run_low {s : ByteArray} {i j r k : Nat} (hi : ¬ i < k) (h : Run s i j r k) : r = bs s i j := by
  unfold Run at h; rw [bs_low s i k (by omega)] at h; omega
theorem fin_even {s : ByteArray} {i j r : Nat} (h : j < s.size) (hq : s[j] = 34) (hr : r = bs s i j) (hS : SameM s i j) (he : ((r : Int) % 2 == 0) = true) :
    ((j : Int) + 1) = (endAt s (i + 1) : Nat) ∧ true = okAt s (i + 1) := by
  have e : (r : Int) % 2 = 0 := by simpa using he
  have := m_even s i j h hq (by omega)
  unfold SameM at hS
  rw [← hS.1, ← hS.2, this.1, this.2]; exact ⟨rfl, rfl⟩
theorem fin_odd {s : ByteArray} {i j r : Nat} (h : j < s.size) (hq : s[j] = 34) (hr : r = bs s i j) (hS : SameM s i j) (he : ((r : Int) % 2 == 0) = false) : SameM s i (j + 1) := by
  have e : ¬ (r : Int) % 2 = 0 := by simpa using he
  have := m_odd s i j h hq (by omega)
  unfold SameM at hS ⊢
  rw [← this.1, ← this.2]; exact hS

set_option maxHeartbeats 400000 in
theorem cm_any (s : ByteArray) (i : Nat) (w : World) (hs : s.size ≤ 4194304) (hi : i < s.size) :
    Calls Try.prog 19 #[.string s, .int .i64 i] w fun e w' => e = .returned (.tuple #[.int .i64 (endAt s (i + 1) : Nat), .bool (okAt s (i + 1))]) ∧ w' = w := by
  go_enter Try.func19, Try.ntmps19
  go_wp2
  go_loop [6] (fun t => ∃ j : Nat, i < j ∧ j ≤ s.size ∧ t = .int .i64 j ∧ SameM s i j) (fun t => s.size + 1 - (intOf t).toNat)
  case atStart => exact ⟨i + 1, by omega, by omega, by go_num, m_at s i⟩
  case round =>
    obtain ⟨j, hij, hj, rfl, hS⟩ := hrel
    by_cases hlt : j < s.size
    · by_cases hq : s[j] = 34
      · have hqi : ((s[j].toNat : Int) != 34) = false := by rw [hq]; rfl
        have HQ : Hid (s[j] = 34) := hq
        clear hq
        go_wp2
        go_loop [7, 8] (fun t u => ∃ r k : Nat, i ≤ k ∧ k < j ∧ r ≤ j ∧ t = .int .i64 r ∧ u = .int .i64 k ∧ Run s i j r k) (fun _ u => (intOf u).toNat + 1)
        case atStart => exact ⟨0, j - 1, by omega, by omega, by omega, rfl, by go_num, run_start s i j (by omega)⟩
        case round =>
          obtain ⟨r, k, hik, hkj, hrj, rfl, rfl, hR⟩ := hrel
          have hrb := run_le hR
          by_cases hki : i < k
          · by_cases hb : s[k] = 92
            · have hbi : ((s[k].toNat : Int) == 92) = true := by rw [hb]; rfl
              have HB : Hid (s[k] = 92) := hb
              clear hb
              go_wp2
              go_round
              case rel => exact ⟨r + 1, k - 1, by omega, by omega, run_le (run_yes (by omega) hki HB.out hR), by go_num, by go_num, run_yes (by omega) hki HB.out hR⟩
              case measure => simp [intOf]; omega
            · have hbi : ((s[k].toNat : Int) == 92) = false := by
                have : s[k].toNat ≠ 92 := fun h => hb (by rw [← UInt8.toNat_inj, h]; rfl)
                simp; omega
              have HR : Hid (r = bs s i j) := run_no (by omega) hb hR
              clear hb
              go_wp2
              · go_ret2
                have hf := fin_even hlt HQ.out HR.out hS (by assumption)
                exact ⟨ret2 hf.1 hf.2, rfl⟩
              · go_round
                case rel => exact ⟨j + 1, by omega, by omega, by go_num, fin_odd hlt HQ.out HR.out hS (by assumption)⟩
                case measure => simp [intOf]; omega
          · have HR : Hid (r = bs s i j) := run_low hki hR
            go_wp2
            · go_ret2
              have hf := fin_even hlt HQ.out HR.out hS (by assumption)
              exact ⟨ret2 hf.1 hf.2, rfl⟩
            · go_round
              case rel => exact ⟨j + 1, by omega, by omega, by go_num, fin_odd hlt HQ.out HR.out hS (by assumption)⟩
              case measure => simp [intOf]; omega
      · have hqi : ((s[j].toNat : Int) != 34) = true := by
          have : s[j].toNat ≠ 34 := fun h => hq (by rw [← UInt8.toNat_inj, h]; rfl)
          simp; omega
        go_wp2
        go_round
        case rel =>
          have := m_step s i j hlt hij hq
          exact ⟨j + 1, by omega, by omega, by go_num, by rw [← this.1]; exact hS.1, by rw [← this.2]; exact hS.2⟩
        case measure => simp [intOf]; omega
    · go_wp2
      go_ret2
      have := m_past s i j (by omega)
      refine ⟨ret2 ?_ ?_, rfl⟩
      · rw [← hS.1, this.1]
      · rw [← hS.2, this.2]


/-- The bound on total length. -/
def zzB (a b : Nat) : Bool := decide (a + b ≤ 1048576)
theorem zz_no {a b : Nat} (h : ¬ a + b ≤ 1048576) : zzB a b = false := decide_eq_false h
theorem zz_yes {a b : Nat} (h : a + b ≤ 1048576) : zzB a b = true := decide_eq_true h

set_option maxHeartbeats 400000 in
theorem zz17_any (p t : ByteArray) (i : Int) (w : World) (hp : p.size ≤ maxLen) (ht : t.size ≤ maxLen) :
    Calls Try.prog 17 #[.string p, .string t, .int .i64 i] w fun e w' => e = .returned (.bool (zzB p.size t.size)) ∧ w' = w := by
  unfold maxLen at hp ht
  go_enter Try.func17, Try.ntmps17
  go_wp2
  all_goals go_ret
  all_goals first | exact ⟨ret1 (zz_no (by omega)).symm, rfl⟩ | exact ⟨ret1 (zz_yes (by omega)).symm, rfl⟩

set_option maxHeartbeats 400000 in
theorem zz20_any (p t : ByteArray) (i : Int) (w : World) (hp : p.size ≤ maxLen) (ht : t.size ≤ maxLen) :
    Calls Try.prog 20 #[.string p, .string t, .int .i64 i] w fun e w' => e = .returned (.bool (zzB p.size t.size)) ∧ w' = w := by
  unfold maxLen at hp ht
  go_enter Try.func20, Try.ntmps20
  go_wp2
  all_goals go_ret
  all_goals first | exact ⟨ret1 (zz_no (by omega)).symm, rfl⟩ | exact ⟨ret1 (zz_yes (by omega)).symm, rfl⟩

end Go.Proofs.Qxb6618103a.Qe
