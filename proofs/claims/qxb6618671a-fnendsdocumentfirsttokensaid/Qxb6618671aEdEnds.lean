import Derived.Test.Qxb6618671aRows
import Derived.WalkKit
import Derived.WalkSpells
import Derived.WalkLawsBesides
import Derived.Lib.Strings
import Derived.Lib.Slices
import Derived.Lib.Walk
import Derived.Lib.Bytes
import Derived.Lib.SlBytesConst
namespace Go.Proofs.Qxb6618671a.Ed
open Go.RowKit

/-- The row that a call of endsDocument lays: three dots (marked behind its last cell, as the run-time marks a constant's bytes). -/
def dots : Obj := .cells #[.int .u8 46, .int .u8 46, .int .u8 46] 5 (3, 4)

theorem ret1 {x y : Bool} (h : x = y) : Ending.returned (.bool x) = .returned (.bool y) := by rw [h]

/-- The first three are dots. -/
def dots3 (zs : List Int) : Bool := decide (zs.take 3 = [46, 46, 46])
/-- endsDocument. -/
def endsB (zs : List Int) : Bool := dots3 zs && (decide (zs.length = 3) || decide (zs.getD 3 0 = 32) || decide (zs.getD 3 0 = 9))

def Bytes (zs : List Int) : Prop := ∀ n ∈ zs, 0 ≤ n ∧ n ≤ 255

set_option maxHeartbeats 400000 in
theorem equal_any (v1 v2 : Value) (xs ys : List Int) (w : World)
    (h1 : (convert 22 9 v1).run Try.prog w = .ok (.string (strOfNums xs)) w) (h2 : (convert 22 9 v2).run Try.prog w = .ok (.string (strOfNums ys)) w) :
    Calls Try.prog 12 #[v1, v2] w fun e w' => e = .returned (.bool (Lib.bytesOf xs == Lib.bytesOf ys)) ∧ w' = w := by
  rw [← Lib.strOfNums_toList, ← Lib.strOfNums_toList]
  go_enter Try.func12, Try.ntmps12
  go_wp2
  go_ret
  exact ⟨rfl, rfl⟩

theorem getD_take (zs : List Int) (i m : Nat) (h : i < m) : (zs.take m).getD i 0 = zs.getD i 0 := Lib.getD_take _ _ _ h

theorem byte_num {a : Int} (h : 0 ≤ a ∧ a ≤ 255) (e : UInt8.ofNat a.toNat = 46) : a = 46 := by
  have e' := congrArg UInt8.toNat e
  have h46 : (46 : UInt8).toNat = 46 := rfl
  rw [h46, UInt8.toNat_ofNat'] at e'
  omega
theorem bytes3 (zs : List Int) (hb : Bytes zs) : (Lib.bytesOf (zs.take 3) == Lib.bytesOf [46, 46, 46]) = dots3 zs := by
  unfold dots3
  rw [Bool.eq_iff_iff]
  simp only [beq_iff_eq, decide_eq_true_eq]
  constructor
  · intro h
    match zs, hb with
    | [], _ => simp [Lib.bytesOf] at h
    | [a], _ => simp [Lib.bytesOf] at h
    | [a, b], _ => simp [Lib.bytesOf] at h
    | a :: b :: c :: r, hb =>
      have ha := hb a (by simp)
      have hb' := hb b (by simp)
      have hc := hb c (by simp)
      simp [Lib.bytesOf] at h
      obtain ⟨h1, h2, h3⟩ := h
      rw [byte_num ha h1, byte_num hb' h2, byte_num hc h3]; rfl
  · intro h
    rw [h]

set_option maxHeartbeats 400000 in
theorem prefix_any (b1 o1 n c b2 d : Nat) (xs : List Int) (w : World) (hx : xs.length = n) (hnc : n ≤ c) (h3 : 3 ≤ n) (hb : Bytes xs)
    (hc1 : ∀ i, i < n → w.cell? ⟨b1, o1 + i, none⟩ = some (.int .u8 (xs.getD i 0))) (hc2 : ∀ i, i < 3 → w.cell? ⟨b2, 0 + i, none⟩ = some (.int .u8 ([46, 46, 46].getD i 0))) :
    Calls Try.prog 11 #[.slice (some ⟨b1, o1, none⟩) n c, .slice (some ⟨b2, 0, none⟩) 3 d] w fun e w' => e = .returned (.bool (dots3 xs)) ∧ w' = w := by
  rw [← bytes3 xs hb]
  have g2 := run_convert_bytes_arg (P := Try.prog) w 22 5 Try.underlying22 Try.underlying5 b2 0 3 d [46, 46, 46] rfl hc2 9 Try.underlying9
  have g1 : (convert 22 9 (.slice (some ⟨b1, o1, none⟩) 3 c)).run Try.prog w = .ok (.string (strOfNums (xs.take 3))) w :=
    run_convert_bytes_arg (P := Try.prog) w 22 5 Try.underlying22 Try.underlying5 b1 o1 3 c (xs.take 3) (by simp; omega) (fun i hi => by rw [Lib.getD_take _ _ _ hi]; exact hc1 i (by omega)) 9 Try.underlying9
  have G1 : Hid ((convert 22 9 (.slice (some ⟨b1, o1, none⟩) 3 c)).run Try.prog w = .ok (.string (strOfNums (xs.take 3))) w) := g1
  have G2 : Hid ((convert 22 9 (.slice (some ⟨b2, 0, none⟩) 3 d)).run Try.prog w = .ok (.string (strOfNums [46, 46, 46])) w) := g2
  clear g1 g2
  go_enter Try.func11, Try.ntmps11
  go_wp2_with fail
  refine (equal_any _ _ (xs.take 3) [46, 46, 46] _ G1.out G2.out).mono ?_
  rintro e w' ⟨rfl, rfl⟩
  go_wp2_with fail
  go_ret
  exact ⟨rfl, rfl⟩

set_option maxHeartbeats 400000 in
theorem prefix_short (a1 : Option Addr) (n c b2 d : Nat) (w : World) (h3 : n < 3) :
    Calls Try.prog 11 #[.slice a1 n c, .slice (some ⟨b2, 0, none⟩) 3 d] w fun e w' => e = .returned (.bool false) ∧ w' = w := by
  have hd : decide ((3 : Int) ≤ (n : Int)) = false := decide_eq_false (by omega)
  go_enter Try.func11, Try.ntmps11
  go_wp2_with fail
  go_ret
  exact ⟨rfl, rfl⟩

theorem cell_old {w : World} {b o : Nat} {v : Value} (h : w.cell? ⟨b, o, none⟩ = some v) (x : Obj) : (w.alloc x).cell? ⟨b, o, none⟩ = some v := Lib.cell?_alloc_marked x h
theorem cells_dots (w : World) : ∀ i, i < 3 → (w.alloc dots).cell? ⟨w.heap.size, 0 + i, none⟩ = some (.int .u8 ([46, 46, 46].getD i 0)) := by
  intro i hi
  unfold dots
  rw [World.cell?_alloc_mark]
  have : i = 0 ∨ i = 1 ∨ i = 2 := by omega
  rcases this with rfl | rfl | rfl <;> rfl

set_option maxHeartbeats 400000 in
theorem ends_short (a1 : Option Addr) (n c : Nat) (w : World) (h3 : n < 3) :
    Calls Try.prog 10 #[.slice a1 n c] w fun e w' => e = .returned (.bool false) ∧ w' = w.alloc dots := by
  have kc := fun (w : World) (C : Array Value) (n c : Nat) => Lib.run_convert_bytes_const (P := Try.prog) w 22 5 C n c Try.underlying22 Try.underlying5
  go_enter Try.func10, Try.ntmps10
  go_wp2_with fail
  refine (prefix_short a1 n c _ 3 _ h3).mono ?_
  rintro e w' ⟨rfl, rfl⟩
  go_wp2_with fail
  go_ret
  exact ⟨rfl, rfl⟩

set_option maxHeartbeats 400000 in
theorem ends_any (b off n c : Nat) (zs : List Int) (w : World) (hx : zs.length = n) (hnc : n ≤ c) (h3 : 3 ≤ n) (hb : Bytes zs)
    (hc : ∀ i, i < n → w.cell? ⟨b, off + i, none⟩ = some (.int .u8 (zs.getD i 0))) :
    Calls Try.prog 10 #[.slice (some ⟨b, off, none⟩) n c] w fun e w' => e = .returned (.bool (endsB zs)) ∧ w' = w.alloc dots := by
  have kc := fun (w : World) (C : Array Value) (n c : Nat) => Lib.run_convert_bytes_const (P := Try.prog) w 22 5 C n c Try.underlying22 Try.underlying5
  have HC : Hid (∀ i, i < n → (w.alloc dots).cell? ⟨b, off + i, none⟩ = some (.int .u8 (zs.getD i 0))) := fun i hi => cell_old (hc i hi) _
  have HX : Hid (zs.length = n) := hx
  cases hd : dots3 zs
  · have HE : Hid (endsB zs = false) := by show _ = _; simp [endsB, hd]
    clear hc hx
    go_enter Try.func10, Try.ntmps10
    go_wp2_with fail
    refine (prefix_any b off n c w.heap.size 3 zs _ HX.out hnc h3 hb HC.out (cells_dots w)).mono ?_
    rintro e w' ⟨rfl, rfl⟩
    go_wp2_with fail
    go_ret
    exact ⟨ret1 HE.out.symm, rfl⟩
  · by_cases h4 : n = 3
    · have HE : Hid (endsB zs = true) := by show _ = _; simp [endsB, hd, hx, h4]
      have h4' : ((n : Int) == 3) = true := by simp; omega
      clear hc hx h4
      go_enter Try.func10, Try.ntmps10
      go_wp2_with fail
      refine (prefix_any b off n c w.heap.size 3 zs _ HX.out hnc h3 hb HC.out (cells_dots w)).mono ?_
      rintro e w' ⟨rfl, rfl⟩
      go_wp2_with fail
      go_ret
      exact ⟨ret1 HE.out.symm, rfl⟩
    · have h4' : ((n : Int) == 3) = false := by simp; omega
      have hlt : (3 : Int) < (n : Int) := by omega
      have hc3 := cell_old (hc 3 (by omega)) dots
      obtain ⟨v, hv⟩ : ∃ v, v = zs.getD 3 0 := ⟨_, rfl⟩
      rw [← hv] at hc3
      have HE : Hid (endsB zs = (decide (v = 32) || decide (v = 9))) := by show _ = _; rw [hv]; simp [endsB, hd, hx, h4]
      clear hc hx h4 hv
      go_enter Try.func10, Try.ntmps10
      go_wp2_with fail
      refine (prefix_any b off n c w.heap.size 3 zs _ HX.out hnc h3 hb HC.out (cells_dots w)).mono ?_
      rintro e w' ⟨rfl, rfl⟩
      go_wp2_with fail
      · have h32 : v = 32 := by assumption
        go_ret
        exact ⟨ret1 (by rw [HE.out, h32]; rfl), rfl⟩
      · go_ret
        exact ⟨ret1 (by rw [HE.out, Bool.eq_iff_iff]; simp), rfl⟩

set_option maxHeartbeats 400000 in
theorem zzends_short (a1 : Option Addr) (n c : Nat) (w : World) (h3 : n < 3) :
    Calls Try.prog 7 #[.slice a1 n c] w fun e w' => e = .returned (.bool false) ∧ w' = w.alloc dots := by
  go_enter Try.func7, Try.ntmps7
  go_wp2_with fail
  refine (ends_short a1 n c _ h3).mono ?_
  rintro e w' ⟨rfl, rfl⟩
  go_wp2_with fail
  go_ret
  exact ⟨rfl, rfl⟩

set_option maxHeartbeats 400000 in
theorem zzends_any (b off n c : Nat) (zs : List Int) (w : World) (hx : zs.length = n) (hnc : n ≤ c) (h3 : 3 ≤ n) (hb : Bytes zs)
    (hc : ∀ i, i < n → w.cell? ⟨b, off + i, none⟩ = some (.int .u8 (zs.getD i 0))) :
    Calls Try.prog 7 #[.slice (some ⟨b, off, none⟩) n c] w fun e w' => e = .returned (.bool (endsB zs)) ∧ w' = w.alloc dots := by
  have HC : Hid (∀ i, i < n → w.cell? ⟨b, off + i, none⟩ = some (.int .u8 (zs.getD i 0))) := hc
  have HX : Hid (zs.length = n) := hx
  clear hc hx
  go_enter Try.func7, Try.ntmps7
  go_wp2_with fail
  refine (ends_any b off n c zs _ HX.out hnc h3 hb HC.out).mono ?_
  rintro e w' ⟨rfl, rfl⟩
  go_wp2_with fail
  go_ret
  exact ⟨rfl, rfl⟩

end Go.Proofs.Qxb6618671a.Ed
