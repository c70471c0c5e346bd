import Derived.Test.Qxb6618103aNumAut
import Derived.RowKit3
import Derived.Deep.LoopGhost
namespace Go.Proofs.Qxb6618103a.Num
open Go.RowKit

/-! ### How many bytes the two closures pass -/
def ns : List UInt8 → Nat
  | [] => 0
  | c :: _ => if signB c then 1 else 0
def nd : List UInt8 → Nat
  | [] => 0
  | c :: l => if digB c then nd l + 1 else 0
theorem skipSign_drop (l : List UInt8) : skipSign l = l.drop (ns l) := by
  cases l with
  | nil => rfl
  | cons c l => simp only [skipSign, ns]; split <;> simp
theorem skipDigs_drop (l : List UInt8) : skipDigs l = l.drop (nd l) := by
  induction l with
  | nil => rfl
  | cons c l ih => simp only [skipDigs, nd]; split <;> simp [ih]
theorem nd_le (l : List UInt8) : nd l ≤ l.length := by
  induction l with
  | nil => simp [nd]
  | cons c l ih => simp only [nd]; split <;> simp; omega
theorem digs_nd (l : List UInt8) : digs l = if 0 < nd l then some (l.drop (nd l)) else none := by
  cases l with
  | nil => rfl
  | cons c l =>
    rw [digs_cons, skipDigs_drop]
    simp only [nd]
    split
    · simp
    · simp

theorem drop_at (s : ByteArray) (k : Nat) (h : k < s.size) : s.data.toList.drop k = s[k] :: s.data.toList.drop (k + 1) := by
  rw [List.drop_eq_getElem_cons (by simpa using h)]; rfl
theorem drop_past (s : ByteArray) (k : Nat) (h : ¬ k < s.size) : s.data.toList.drop k = [] :=
  List.drop_eq_nil_of_le (by simp; omega)

/-- sign() moves i from k to k'; digits() moves it from k to k' and answers b. -/
def SignTo (s : ByteArray) (k k' : Nat) : Prop := k' = k + ns (s.data.toList.drop k)
def DigsTo (s : ByteArray) (k k' : Nat) (b : Bool) : Prop := k' = k + nd (s.data.toList.drop k) ∧ b = decide (0 < nd (s.data.toList.drop k))
/-- digits' loop: from k on it stands at j, all digits between. -/
def DigsAt (s : ByteArray) (k j : Nat) : Prop := k ≤ j ∧ j + nd (s.data.toList.drop j) = k + nd (s.data.toList.drop k)

theorem sign_yes {s : ByteArray} {k : Nat} (h : k < s.size) (hc : (s[k].toNat : Int) = 43 ∨ (s[k].toNat : Int) = 45) : SignTo s k (k + 1) := by
  unfold SignTo
  have : signB s[k] = true := decide_eq_true (by omega)
  rw [drop_at s k h]; simp [ns, this]
theorem sign_no {s : ByteArray} {k : Nat} (h : k < s.size) (hc : (s[k].toNat : Int) ≠ 43 ∧ (s[k].toNat : Int) ≠ 45) : SignTo s k k := by
  unfold SignTo
  have : signB s[k] = false := decide_eq_false (by omega)
  rw [drop_at s k h]; simp [ns, this]
theorem sign_end {s : ByteArray} {k : Nat} (h : ¬ k < s.size) : SignTo s k k := by
  unfold SignTo
  rw [drop_past s k h]; rfl
theorem digs_more {s : ByteArray} {k j : Nat} (h : j < s.size) (hc : 48 ≤ (s[j].toNat : Int) ∧ (s[j].toNat : Int) ≤ 57) (hD : DigsAt s k j) : DigsAt s k (j + 1) := by
  unfold DigsAt at hD ⊢
  have : digB s[j] = true := decide_eq_true (by omega)
  rw [drop_at s j h] at hD
  simp [nd, this] at hD
  omega
theorem digs_stop {s : ByteArray} {k j : Nat} (h : j < s.size) (hc : ¬ (48 ≤ (s[j].toNat : Int) ∧ (s[j].toNat : Int) ≤ 57)) (hD : DigsAt s k j) : DigsTo s k j (decide (k < j)) := by
  unfold DigsAt at hD; unfold DigsTo
  have : digB s[j] = false := decide_eq_false (by omega)
  rw [drop_at s j h] at hD
  simp [nd, this] at hD
  refine ⟨by omega, ?_⟩
  rw [Bool.eq_iff_iff]; simp; omega
theorem digs_end {s : ByteArray} {k j : Nat} (h : ¬ j < s.size) (hD : DigsAt s k j) : DigsTo s k j (decide (k < j)) := by
  unfold DigsAt at hD; unfold DigsTo
  rw [drop_past s j h] at hD
  simp [nd] at hD
  refine ⟨by omega, ?_⟩
  rw [Bool.eq_iff_iff]; simp; omega

/-! ### The call's own memory: the text in block N, the place in block N + 1 -/
def St (w0 : World) (s : ByteArray) (k : Nat) (w : World) : Prop :=
  w.heap[w0.heap.size]? = some (.cells #[.string s] 9 (0, 0)) ∧ w.heap[w0.heap.size + 1]? = some (.cells #[.int .i64 k] 3 (0, 0)) ∧ Grown w0 w
theorem st_set {w0 : World} {s : ByteArray} {k : Nat} {w : World} (h : St w0 s k w) (k' : Nat) : St w0 s k' (w.setCell ⟨w0.heap.size + 1, 0, none⟩ (.int .i64 k')) :=
  ⟨(Below.heap_setCell _ _ _ _ (by show w0.heap.size ≠ w0.heap.size + 1; omega)).trans h.1, one_setCell h.2.1, h.2.2.setCell (by show w0.heap.size ≤ w0.heap.size + 1; omega) _⟩

set_option maxHeartbeats 400000 in
theorem sign_any (w0 : World) (s : ByteArray) (k : Nat) (w : World) (hs : s.size ≤ 4194304) (hk : k ≤ s.size) (hst : St w0 s k w) :
    Calls Try.prog 28 #[.pointer (some ⟨w0.heap.size + 1, 0, none⟩), .pointer (some ⟨w0.heap.size, 0, none⟩)] w fun e w' =>
      e = .returned (.tuple #[]) ∧ ∃ k', k' ≤ s.size ∧ SignTo s k k' ∧ St w0 s k' w' := by
  have hc1 := cell_of_one hst.1
  have hc2 := cell_of_one hst.2.1
  have hf := free_of_one hst.2.1
  by_cases hlt : k < s.size
  · by_cases h1 : (s[k].toNat : Int) = 43
    · have h1' : ((s[k].toNat : Int) == 43) = true := by simpa using h1
      have H1 : Hid ((s[k].toNat : Int) = 43) := h1
      clear h1
      go_enter Try.func28, Try.ntmps28
      go_wp2
      go_end0
      exact ⟨rfl, k + 1, by omega, sign_yes hlt (.inl H1.out), st_set hst (k + 1)⟩
    · by_cases h2 : (s[k].toNat : Int) = 45
      · have h1' : ((s[k].toNat : Int) == 43) = false := by simpa using h1
        have h2' : ((s[k].toNat : Int) == 45) = true := by simpa using h2
        have H2 : Hid ((s[k].toNat : Int) = 45) := h2
        clear h1 h2
        go_enter Try.func28, Try.ntmps28
        go_wp2
        go_end0
        exact ⟨rfl, k + 1, by omega, sign_yes hlt (.inr H2.out), st_set hst (k + 1)⟩
      · have h1' : ((s[k].toNat : Int) == 43) = false := by simpa using h1
        have h2' : ((s[k].toNat : Int) == 45) = false := by simpa using h2
        go_enter Try.func28, Try.ntmps28
        go_wp2
        go_end0
        exact ⟨rfl, k, by omega, sign_no hlt ⟨h1, h2⟩, hst⟩
  · have hlt' : decide ((k : Int) < (s.size : Int)) = false := decide_eq_false (by omega)
    go_enter Try.func28, Try.ntmps28
    go_wp2
    go_end0
    exact ⟨rfl, k, by omega, sign_end hlt, hst⟩

/-- What digits() leaves. -/
def DigPost (w0 : World) (s : ByteArray) (k : Nat) (e : Ending) (w' : World) : Prop := ∃ k' b, e = .returned (.bool b) ∧ k' ≤ s.size ∧ DigsTo s k k' b ∧ St w0 s k' w'

set_option maxHeartbeats 400000 in
theorem digits_any (w0 : World) (s : ByteArray) (k : Nat) (w : World) (hs : s.size ≤ 4194304) (hk : k ≤ s.size) (hst : St w0 s k w) :
    Calls Try.prog 27 #[.pointer (some ⟨w0.heap.size + 1, 0, none⟩), .pointer (some ⟨w0.heap.size, 0, none⟩)] w fun e w' => DigPost w0 s k e w' := by
  have hc1 := cell_of_one hst.1
  have hc2 := cell_of_one hst.2.1
  have hf := free_of_one hst.2.1
  go_enter Try.func27, Try.ntmps27
  go_wp2
  clear hc1 hc2 hf
  go_loopg [5] (s.size - k) (fun g _ wr => ∃ j : Nat, j ≤ s.size ∧ s.size ≤ g + j ∧ DigsAt s k j ∧ St w0 s j wr)
  case atStart => exact ⟨k, hk, by omega, ⟨Nat.le_refl _, rfl⟩, hst⟩
  case round =>
    obtain ⟨j, hj, hg, hD, hstr⟩ := hrel
    have hc1 := cell_of_one hstr.1
    have hc2 := cell_of_one hstr.2.1
    have hf := free_of_one hstr.2.1
    by_cases hlt : j < s.size
    · by_cases hd : 48 ≤ (s[j].toNat : Int) ∧ (s[j].toNat : Int) ≤ 57
      · obtain ⟨hd1, hd2⟩ := hd
        go_wp2
        go_roundg (gk - 1)
        case rel => exact ⟨j + 1, by omega, by omega, digs_more hlt ⟨hd1, hd2⟩ hD, st_set hstr (j + 1)⟩
        case measure => omega
      · have hT := digs_stop hlt hd hD
        by_cases hd1 : 48 ≤ (s[j].toNat : Int)
        · have hd2 : decide ((s[j].toNat : Int) ≤ 57) = false := decide_eq_false (by omega)
          go_wp2
          go_ret
          exact ⟨j, _, rfl, hj, hT, hstr⟩
        · have hd2 : decide (48 ≤ (s[j].toNat : Int)) = false := decide_eq_false (by omega)
          go_wp2
          go_ret
          exact ⟨j, _, rfl, hj, hT, hstr⟩
    · have hT := digs_end hlt hD
      have hlt' : decide ((j : Int) < (s.size : Int)) = false := decide_eq_false (by omega)
      go_wp2
      go_ret
      exact ⟨j, _, rfl, hj, hT, hstr⟩

end Go.Proofs.Qxb6618103a.Num
