import Derived.Test.Qxb6618671aEdRows
import Derived.ProofKit
import Derived.OpenShut
namespace Go.Proofs.Qxb6618671a.Ed
open Go.RowKit Go

theorem wf_u8 {n : Int} (h : (Lit.int .u8 n).wf = true) : 0 ≤ n ∧ n ≤ 255 := bounds_u8 h

/-! ### How many of the 256 extensions end a document -/
def cnt (zs : List Int) : Nat → Nat
  | 0 => 0
  | k + 1 => cnt zs k + if endsB (zs ++ [(k : Int)]) then 1 else 0
theorem cnt_le (zs : List Int) (k : Nat) : cnt zs k ≤ k := by
  induction k with
  | zero => simp [cnt]
  | succ k ih => simp only [cnt]; split <;> omega

def Cnt (zs : List Int) (k ct : Nat) : Prop := ct = cnt zs k

/-- What the walk is told of the slice that came in. -/
def Came (w : World) (a : Option Addr) (n : Nat) (zs : List Int) : Prop :=
  zs.length = n ∧ Bytes zs ∧ (0 < n → ∃ b off, a = some ⟨b, off, none⟩ ∧ ∀ i, i < n → w.cell? ⟨b, off + i, none⟩ = some (.int .u8 (zs.getD i 0)))

theorem came_of {w : World} {a : Option Addr} {len cap : Nat} {zs : List Int} (h : (a = none ∧ len = 0 ∧ cap = 0 ∧ zs = []) ∨
    ∃ x, a = some x ∧ len ≤ cap ∧ cap ≤ maxLen ∧ zs.length = cap ∧ (∀ i, i < zs.length → w.cell? (x.add i) = some (.int .u8 (zs.getD i 0))) ∧ ∀ n ∈ zs, (Lit.int .u8 n).wf = true) :
    len ≤ maxLen ∧ Came w a len (zs.take len) := by
  rcases h with ⟨rfl, rfl, rfl, rfl⟩ | ⟨x, rfl, hl, hm, hz, hcell, hwf⟩
  · exact ⟨Nat.zero_le _, rfl, fun n hn => by simp at hn, fun h => absurd h (by omega)⟩
  · refine ⟨Nat.le_trans hl hm, by simp; omega, fun n hn => wf_u8 (hwf n (List.mem_of_mem_take hn)), fun h => ?_⟩
    obtain ⟨b, off, spot⟩ := x
    have hspot : spot = none := by simpa [Addr.add] using World.cell?_spot (hcell 0 (by omega))
    subst hspot
    refine ⟨b, off, rfl, fun i hi => ?_⟩
    rw [getD_take _ _ _ hi]
    have := hcell i (by omega)
    rwa [Addr.add_lit] at this

/-- The cells of the slice that came in, behind one new block. -/
def Src (w : World) (a0 : Option Addr) (zs : List Int) (o : Obj) : Prop := 0 < (vals zs).length → ∃ ad, a0 = some ad ∧ ∀ j v, (vals zs)[j]? = some v → (w.alloc o).cell? (ad.add j) = some v
theorem src_out {w : World} {a0 : Option Addr} {zs : List Int} {o : Obj} (h : Src w a0 zs o) (x : Option Addr) : 0 < (vals zs).length → x = x ∧ ∃ ad, a0 = some ad ∧ ∀ j v, (vals zs)[j]? = some v → (w.alloc o).cell? (ad.add j) = some v := fun h0 => ⟨rfl, h h0⟩
theorem came_src {w : World} {a0 : Option Addr} {n : Nat} {zs : List Int} (hx : zs.length = n) (hcl : 0 < n → ∃ b off, a0 = some ⟨b, off, none⟩ ∧ ∀ i, i < n → w.cell? ⟨b, off + i, none⟩ = some (.int .u8 (zs.getD i 0))) (o : Obj) : Src w a0 zs o := by
  intro h
  rw [vals_length, hx] at h
  obtain ⟨b, off, rfl, hc⟩ := hcl h
  refine ⟨⟨b, off, none⟩, rfl, fun j v hj => ?_⟩
  have hjn : j < zs.length := by
    rcases Nat.lt_or_ge j zs.length with h' | h'
    · exact h'
    · rw [List.getElem?_eq_none (by rw [vals_length]; exact h')] at hj; simp at hj
  rw [vals_get zs j hjn] at hj
  cases hj
  rw [Addr.add_lit]
  exact cell_old (hc j (by omega)) o
theorem vals_one (zs : List Int) : ∀ v ∈ vals zs, v.oneCell' = true := by
  intro v hv
  simp only [vals, List.mem_map] at hv
  obtain ⟨x, _, rfl⟩ := hv
  rfl
theorem spliced (zs : List Int) (n : Nat) (hx : zs.length = n) : splice (List.replicate (n + 1) (Value.int .u8 0)) 0 (vals zs) = vals (zs ++ [0]) := by
  have h : (vals zs).length = n := by rw [vals_length, hx]
  simp only [splice, h, List.take_zero, List.nil_append, Nat.zero_add, List.drop_replicate]
  rw [show n + 1 - n = 1 from by omega]
  simp [vals]

theorem set_last {w : World} {g n : Nat} {zs : List Int} {z k : Int} (hx : zs.length = n) (h : Row w g ((zs ++ [z]).set n k)) : Row w g (zs ++ [k]) := by
  have : (zs ++ [z]).set n k = zs ++ [k] := by
    rw [List.set_append_right _ _ (by omega), ← hx]; simp
  rwa [this] at h
theorem bytes_snoc {zs : List Int} {k : Int} (h : Bytes zs) (hk : 0 ≤ k ∧ k ≤ 255) : Bytes (zs ++ [k]) := by
  intro n hn
  simp only [List.mem_append, List.mem_singleton] at hn
  rcases hn with hn | rfl
  · exact h n hn
  · exact hk
theorem cnt_no {zs : List Int} {k ct : Nat} (he : endsB (zs ++ [(k : Int)]) = false) (h : Cnt zs k ct) : Cnt zs (k + 1) ct := by
  unfold Cnt at h ⊢; simp [cnt, he, h]
theorem cnt_yes {zs : List Int} {k ct : Nat} (he : endsB (zs ++ [(k : Int)]) = true) (h : Cnt zs k ct) : Cnt zs (k + 1) (ct + 1) := by
  unfold Cnt at h ⊢; simp [cnt, he, h]
theorem came_later {w wr : World} {b off n : Nat} {zs : List Int} (hB : Below w.heap.size w wr) (hcl : ∀ i, i < n → w.cell? ⟨b, off + i, none⟩ = some (.int .u8 (zs.getD i 0))) :
    ∀ i, i < n → wr.cell? ⟨b, off + i, none⟩ = some (.int .u8 (zs.getD i 0)) := by
  intro i hi
  have h := hcl i hi
  rw [hB.cell (p := ⟨b, off + i, none⟩) (block_lt_of_cell h)]
  exact h
/-- Four bytes and more: all 256, or none. -/
theorem ends_long (zs : List Int) (c : Int) (h : 4 ≤ zs.length) : endsB (zs ++ [c]) = tokB zs := by
  rw [← ends_tok]
  match zs, h with
  | a :: b :: d :: e :: r, _ => simp [endsB, dots3]
theorem cnt_long (zs : List Int) (n : Nat) (hx : zs.length = n) (h : 4 ≤ n) : cnt zs 256 = if tokB zs then 256 else 0 := by
  have : ∀ k, cnt zs k = if tokB zs then k else 0 := by
    intro k
    induction k with
    | zero => simp [cnt]
    | succ k ih => simp only [cnt, ih, ends_long zs k (by omega)]; split <;> simp
  exact this 256

theorem cnt_zero {zs : List Int} (h : ∀ k : Nat, endsB (zs ++ [(k : Int)]) = false) (m : Nat) : cnt zs m = 0 := by
  induction m with
  | zero => rfl
  | succ k ih => simp [cnt, ih, h k]
theorem cnt_three {zs : List Int} (hx : zs.length = 3) : cnt zs 256 = if allB zs 3 = true then 2 else 0 := by
  split
  · rename_i h
    have e : zs = [46, 46, 46] := by simpa [allB] using h
    rw [e]; decide +kernel
  · rename_i h
    have e : ¬ zs = [46, 46, 46] := by simpa [allB] using h
    refine cnt_zero (fun k => ?_) 256
    have : dots3 (zs ++ [(k : Int)]) = false := by
      unfold dots3
      rw [List.take_append_of_le_length (by omega), List.take_of_length_le (by omega)]
      exact decide_eq_false e
    simp [endsB, this]
theorem cnt_two {zs : List Int} (hx : zs.length = 2) : cnt zs 256 = if allB zs 2 = true then 1 else 0 := by
  split
  · rename_i h
    have e : zs = [46, 46] := by simpa [allB] using h
    rw [e]; decide +kernel
  · rename_i h
    have e : ¬ zs = [46, 46] := by simpa [allB] using h
    refine cnt_zero (fun k => ?_) 256
    have : dots3 (zs ++ [(k : Int)]) = false := by
      unfold dots3
      refine decide_eq_false (fun h' => e ?_)
      match zs, hx with
      | [a, b], _ => simp at h'; simp [h'.1, h'.2.1]
    simp [endsB, this]
theorem cnt_less {zs : List Int} (hx : zs.length < 2) : cnt zs 256 = 0 :=
  cnt_zero (fun k => ends_less (by simp; omega)) 256
theorem all_same3 (b off n c : Nat) (zs : List Int) (w : World) (h3 : n = 3) (hx : zs.length = n)
    (hc : ∀ i, i < n → w.cell? ⟨b, off + i, none⟩ = some (.int .u8 (zs.getD i 0))) :
    Calls Try.prog 9 #[.slice (some ⟨b, off, none⟩) n c, .int .i64 3] w fun e w' => e = .returned (.bool (allB zs 3)) ∧ w' = w := by
  subst h3; exact all_any b off 3 c zs w (by omega) hx hc
theorem all_same2 (b off n c : Nat) (zs : List Int) (w : World) (h3 : n = 2) (hx : zs.length = n)
    (hc : ∀ i, i < n → w.cell? ⟨b, off + i, none⟩ = some (.int .u8 (zs.getD i 0))) :
    Calls Try.prog 9 #[.slice (some ⟨b, off, none⟩) n c, .int .i64 2] w fun e w' => e = .returned (.bool (allB zs 2)) ∧ w' = w := by
  subst h3; exact all_any b off 2 c zs w (by omega) hx hc
theorem all_three (a1 : Option Addr) (n c : Nat) (w : World) (h : n ≠ 3) :
    Calls Try.prog 9 #[.slice a1 n c, .int .i64 3] w fun e w' => e = .returned (.bool false) ∧ w' = w := all_short a1 n c 3 w h
theorem all_two (a1 : Option Addr) (n c : Nat) (w : World) (h : n ≠ 2) :
    Calls Try.prog 9 #[.slice a1 n c, .int .i64 2] w fun e w' => e = .returned (.bool false) ∧ w' = w := all_short a1 n c 2 w h

set_option maxHeartbeats 1000000 in
set_option maxRecDepth 100000 in
theorem law4 (a0 : Option Addr) (n c : Nat) (zs : List Int) (w : World) (hm : n ≤ maxLen) (hC : Came w a0 n zs) :
    Calls Try.prog 4 #[.slice a0 n c] w fun e w' => e = .returned (.bool true) ∧ Below w.heap.size w w' := by
  by_cases hz : n ≤ 1048576
  · have hzz : zz1 n = true := zz1_yes hz
    by_cases h6 : n ≤ 65536
    · have hmk : ∀ w : World, (Instr.makeSlice 22 (.int .i64 ((n : Int) + 1)) (.int .i64 ((n : Int) + 1))).run Try.prog w = .ok (.slice (some ⟨w.heap.size, 0, none⟩) (n + 1) (n + 1)) (w.alloc (fresh (n + 1))) := fun w => make_run (n + 1) (n + 1) (by omega) (by omega) w
      obtain ⟨hx, hby, hcl⟩ := hC
      have N1 : Hid ((vals zs).length = Nat.min n (n + 1)) := by show _ = _; rw [vals_length, hx]; exact (Nat.min_eq_left (by omega)).symm
      have N2 : Src w a0 zs (fresh (n + 1)) := came_src hx hcl _
      have N3 : Hid (0 + (vals zs).length ≤ (List.replicate (n + 1) (Value.int .u8 0)).length) := by show _ ≤ _; rw [vals_length, List.length_replicate]; omega
      have N4 : Hid (∀ v ∈ vals zs, v.oneCell' = true) := vals_one zs
      have N5 : Hid (Below w.heap.size w (w.alloc (fresh (n + 1)))) := (Below.refl _ _).alloc (Nat.le_refl _) _
      have N6 : Hid ((w.alloc (fresh (n + 1))).heap[w.heap.size]? = some (.cells (List.replicate (n + 1) (Value.int .u8 0)).toArray 5 (0, 0))) := fresh_row w (n + 1)
      have HX : Hid (zs.length = n) := hx
      have HL : Hid (0 < n → ∃ b off, a0 = some ⟨b, off, none⟩ ∧ ∀ i, i < n → w.cell? ⟨b, off + i, none⟩ = some (.int .u8 (zs.getD i 0))) := hcl
      clear hx hcl
      go_enter Try.func4, Try.ntmps4
      go_wp2_with (first | (go_at_call 8; refine (zz8_any a0 n c _ hm).mono ?_; rintro e w1 ⟨rfl, hw⟩; replace hw := hw.symm; subst hw) | (refine wpList_copy_splice rfl (.tmp 17) (.tmp 18) 22 22 rfl 5 Try.underlying22 size5 _ _ _ _ _ _ rfl rfl w.heap.size 0 (List.replicate (n + 1) (.int .u8 0)) 5 N6.out (vals zs) N1.out (src_out N2 _) N3.out N4.out w.heap.size w N5.out (Nat.le_refl _) ?_; intro w2 HG2 hB2))
      clear N1 N2 N3 N4 N5 N6 hmk
      have hrow : Row w2 w.heap.size (zs ++ [0]) := by
        show _ = _
        rw [HG2.out, spliced zs n HX.out]
      clear HG2
      go_loopw [4, 5] (fun cn ci wr => ∃ k ct : Nat, k ≤ 256 ∧ ct ≤ k ∧ ci = .int .i64 k ∧ cn = .int .i64 ct ∧ Cnt zs k ct ∧ (∃ z, Row wr w.heap.size (zs ++ [z])) ∧ Below w.heap.size w wr) (fun _ ci _ => 256 - (intOf ci).toNat)
      case atStart => exact ⟨0, 0, by omega, by omega, rfl, rfl, rfl, ⟨0, hrow⟩, hB2⟩
      case round =>
        clear hB2 hrow
        obtain ⟨k, ct, hk, hct, rfl, rfl, hcnt, ⟨z, hrow⟩, hB⟩ := hrel
        by_cases hlt : k < 256
        · have hlen : (zs ++ [z]).length = n + 1 := by rw [List.length_append, HX.out]; rfl
          have hcN := row_cell hrow (i := n) (by omega)
          have hfN := row_free hrow n
          obtain ⟨v, hv⟩ : ∃ v, v = (zs ++ [z]).getD n 0 := ⟨_, rfl⟩
          rw [← hv] at hcN
          clear hv
          clear hlen
          have hrow1 : Row (wr.setCell ⟨w.heap.size, n, none⟩ (.int .u8 (k : Int))) w.heap.size (zs ++ [(k : Int)]) := set_last HX.out (row_set hrow n k)
          have hB1 : Below w.heap.size w (wr.setCell ⟨w.heap.size, n, none⟩ (.int .u8 (k : Int))) := hB.setCell (Nat.le_refl _) _
          have HL1 : Hid ((zs ++ [(k : Int)]).length = n + 1) := by show _ = _; rw [List.length_append, HX.out]; rfl
          have HB1 : Bytes (zs ++ [(k : Int)]) := bytes_snoc hby (by omega)
          cases he : endsB (zs ++ [(k : Int)])
          · have hcnt' : Cnt zs (k + 1) ct := cnt_no he hcnt
            go_wp2_with fail
            refine (zzends_row w.heap.size (n + 1) (n + 1) (zs ++ [(k : Int)]) _ HL1.out (Nat.le_refl _) HB1 hrow1).mono ?_
            rintro e w3 ⟨rfl, hw3⟩
            replace hw3 := hw3.symm
            subst hw3
            go_wp2_with fail
            go_roundw
            case rel => exact ⟨k + 1, ct, by omega, by omega, by go_num, rfl, hcnt', ⟨k, row_alloc hrow1 _⟩, hB1.alloc (Nat.le_of_lt (row_lt hrow1)) _⟩
            case measure => simp [intOf]; omega
          · have hcnt' : Cnt zs (k + 1) (ct + 1) := cnt_yes he hcnt
            go_wp2_with fail
            refine (zzends_row w.heap.size (n + 1) (n + 1) (zs ++ [(k : Int)]) _ HL1.out (Nat.le_refl _) HB1 hrow1).mono ?_
            rintro e w3 ⟨rfl, hw3⟩
            replace hw3 := hw3.symm
            subst hw3
            go_wp2_with fail
            go_roundw
            case rel => exact ⟨k + 1, ct + 1, by omega, by omega, by go_num, by go_num, hcnt', ⟨k, row_alloc hrow1 _⟩, hB1.alloc (Nat.le_of_lt (row_lt hrow1)) _⟩
            case measure => simp [intOf]; omega
        · have HK : Hid (k = 256) := by show _ = _; omega
          have hge : ¬ ((k : Int) < 256) := by omega
          clear hrow
          by_cases h4 : 4 ≤ n
          · obtain ⟨b, off, ha, hcl⟩ := HL.out (by omega)
            subst ha
            have hcl' : Hid (∀ i, i < n → wr.cell? ⟨b, off + i, none⟩ = some (.int .u8 (zs.getD i 0))) := came_later hB hcl
            clear hcl HL
            cases ht : tokB zs
            · have hE : Hid (((ct : Int) == 0) = true) := by show _ = _; rw [hcnt, HK.out]; simp [cnt_long zs n HX.out h4, ht]
              go_wp2_with fail
              refine (first_any b off n c zs _ hz HX.out hcl'.out).mono ?_
              rintro e w3 ⟨rfl, hw3⟩
              replace hw3 := hw3.symm
              subst hw3
              go_wp2_with fail
              go_ret
              exact ⟨ret1 hE.out, hB⟩
            · have hE : Hid (((ct : Int) == 256) = true) := by show _ = _; rw [hcnt, HK.out]; simp [cnt_long zs n HX.out h4, ht]
              go_wp2_with fail
              refine (first_any b off n c zs _ hz HX.out hcl'.out).mono ?_
              rintro e w3 ⟨rfl, hw3⟩
              replace hw3 := hw3.symm
              subst hw3
              go_wp2_with fail
              go_ret
              exact ⟨ret1 hE.out, hB⟩
          · have h4' : ¬ (4 : Int) ≤ (n : Int) := by omega
            by_cases h3 : n = 3
            · obtain ⟨b, off, ha, hcl⟩ := HL.out (by omega)
              subst ha
              have hcl' : Hid (∀ i, i < n → wr.cell? ⟨b, off + i, none⟩ = some (.int .u8 (zs.getD i 0))) := came_later hB hcl
              have H3 : Hid (n = 3) := h3
              clear hcl HL h3
              cases ht : allB zs 3
              · have hE : Hid (((ct : Int) == 0) = true) := by show _ = _; rw [hcnt, HK.out, cnt_three (HX.out.trans H3.out), if_neg (by rw [ht]; decide)]; rfl
                go_wp2_with fail
                refine (all_same3 b off n c zs _ H3.out HX.out hcl'.out).mono ?_
                rintro e w3 ⟨rfl, hw3⟩
                replace hw3 := hw3.symm
                subst hw3
                go_wp2_with fail
                refine (all_two (some ⟨b, off, none⟩) n c _ (by rw [H3.out]; omega)).mono ?_
                rintro e w3 ⟨rfl, hw3⟩
                replace hw3 := hw3.symm
                subst hw3
                go_wp2_with fail
                go_ret
                exact ⟨ret1 hE.out, hB⟩
              · have hE : Hid (((ct : Int) == 2) = true) := by show _ = _; rw [hcnt, HK.out, cnt_three (HX.out.trans H3.out), if_pos ht]; rfl
                go_wp2_with fail
                refine (all_same3 b off n c zs _ H3.out HX.out hcl'.out).mono ?_
                rintro e w3 ⟨rfl, hw3⟩
                replace hw3 := hw3.symm
                subst hw3
                go_wp2_with fail
                go_ret
                exact ⟨ret1 hE.out, hB⟩
            · by_cases h2 : n = 2
              · obtain ⟨b, off, ha, hcl⟩ := HL.out (by omega)
                subst ha
                have hcl' : Hid (∀ i, i < n → wr.cell? ⟨b, off + i, none⟩ = some (.int .u8 (zs.getD i 0))) := came_later hB hcl
                have H2 : Hid (n = 2) := h2
                have H3 : Hid (n ≠ 3) := h3
                clear hcl HL h2 h3
                cases ht : allB zs 2
                · have hE : Hid (((ct : Int) == 0) = true) := by show _ = _; rw [hcnt, HK.out, cnt_two (HX.out.trans H2.out), if_neg (by rw [ht]; decide)]; rfl
                  go_wp2_with fail
                  refine (all_three (some ⟨b, off, none⟩) n c _ H3.out).mono ?_
                  rintro e w3 ⟨rfl, hw3⟩
                  replace hw3 := hw3.symm
                  subst hw3
                  go_wp2_with fail
                  refine (all_same2 b off n c zs _ H2.out HX.out hcl'.out).mono ?_
                  rintro e w3 ⟨rfl, hw3⟩
                  replace hw3 := hw3.symm
                  subst hw3
                  go_wp2_with fail
                  go_ret
                  exact ⟨ret1 hE.out, hB⟩
                · have hE : Hid (((ct : Int) == 1) = true) := by show _ = _; rw [hcnt, HK.out, cnt_two (HX.out.trans H2.out), if_pos ht]; rfl
                  go_wp2_with fail
                  refine (all_three (some ⟨b, off, none⟩) n c _ H3.out).mono ?_
                  rintro e w3 ⟨rfl, hw3⟩
                  replace hw3 := hw3.symm
                  subst hw3
                  go_wp2_with fail
                  refine (all_same2 b off n c zs _ H2.out HX.out hcl'.out).mono ?_
                  rintro e w3 ⟨rfl, hw3⟩
                  replace hw3 := hw3.symm
                  subst hw3
                  go_wp2_with fail
                  go_ret
                  exact ⟨ret1 hE.out, hB⟩
              · have H2 : Hid (n ≠ 2) := h2
                have H3 : Hid (n ≠ 3) := h3
                clear HL h2 h3
                have H1 : Hid (n < 2) := by show _ < _; have := H2.out; have := H3.out; omega
                have hE : Hid (((ct : Int) == 0) = true) := by show _ = _; rw [hcnt, HK.out, cnt_less (by rw [HX.out]; exact H1.out)]; rfl
                go_wp2_with fail
                refine (all_three a0 n c _ H3.out).mono ?_
                rintro e w3 ⟨rfl, hw3⟩
                replace hw3 := hw3.symm
                subst hw3
                go_wp2_with fail
                refine (all_two a0 n c _ H2.out).mono ?_
                rintro e w3 ⟨rfl, hw3⟩
                replace hw3 := hw3.symm
                subst hw3
                go_wp2_with fail
                go_ret
                exact ⟨ret1 hE.out, hB⟩
    · go_enter Try.func4, Try.ntmps4
      go_wp2_with (go_at_call 8; refine (zz8_any a0 n c _ hm).mono ?_; rintro e w' ⟨rfl, rfl⟩)
      go_ret
      exact ⟨rfl, Below.refl _ _⟩
  · have hzz : zz1 n = false := zz1_no hz
    go_enter Try.func4, Try.ntmps4
    go_wp2_with (go_at_call 8; refine (zz8_any a0 n c _ hm).mono ?_; rintro e w' ⟨rfl, rfl⟩)
    go_ret
    exact ⟨rfl, Below.refl _ _⟩

end Go.Proofs.Qxb6618671a.Ed
