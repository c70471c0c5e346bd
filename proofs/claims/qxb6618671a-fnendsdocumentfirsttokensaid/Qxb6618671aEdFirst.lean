import Derived.Test.Qxb6618671aEdOne
import Derived.Deep.Cut
namespace Go.Proofs.Qxb6618671a.Ed
open Go.RowKit Go

/-! ### Slices that came in, or that the call made, by one word -/
theorem came_row {w : World} {g n : Nat} {zs : List Int} (hx : zs.length = n) (hb : Bytes zs) (h : Row w g zs) : Came w (some ⟨g, 0, none⟩) n zs :=
  ⟨hx, hb, fun _ => ⟨g, 0, rfl, fun i hi => row_cells h i (by omega)⟩⟩
theorem came_below {w w' : World} {a : Option Addr} {n : Nat} {zs : List Int} (h : Came w a n zs) (hB : Below w.heap.size w w') : Came w' a n zs := by
  refine ⟨h.1, h.2.1, fun h0 => ?_⟩
  obtain ⟨b, off, ha, hc⟩ := h.2.2 h0
  exact ⟨b, off, ha, came_later hB hc⟩
theorem came_cells {w : World} {a : Option Addr} {n : Nat} {zs : List Int} (h : Came w a n zs) : ∀ ad, a = some ad → ∀ j u, (vals zs)[j]? = some u → w.cell? (ad.add j) = some u := by
  intro ad ha j u hj
  have hjn : j < zs.length := by
    rcases Nat.lt_or_ge j zs.length with h' | h'
    · exact h'
    · rw [List.getElem?_eq_none (by rw [vals_length]; exact h')] at hj; simp at hj
  have hx := h.1
  obtain ⟨b, off, rfl, hc⟩ := h.2.2 (by omega)
  cases ha
  rw [vals_get zs j hjn] at hj
  cases hj
  rw [Addr.add_lit]
  exact hc j (by omega)
theorem first_came (a : Option Addr) (n c : Nat) (zs : List Int) (w : World) (hn : n ≤ 1048576) (h : Came w a n zs) :
    Calls Try.prog 6 #[.slice a n c] w fun e w' => e = .returned (.bool (tokB zs)) ∧ w' = w := by
  by_cases h0 : n = 0
  · subst h0
    have hz : zs = [] := List.eq_nil_of_length_eq_zero h.1
    subst hz
    exact first_empty a c w
  · obtain ⟨b, off, rfl, hc⟩ := h.2.2 (by omega)
    exact first_any b off n c zs w hn h.1 hc
theorem zzends_came (a : Option Addr) (n c : Nat) (zs : List Int) (w : World) (hnc : n ≤ c) (h : Came w a n zs) :
    Calls Try.prog 7 #[.slice a n c] w fun e w' => e = .returned (.bool (tokB zs)) ∧ w' = w.alloc dots := by
  rw [← ends_tok]
  by_cases h3 : n < 3
  · have := zzends_short a n c w h3
    rw [ends_less (by rw [h.1]; exact h3)]
    exact this
  · obtain ⟨b, off, rfl, hc⟩ := h.2.2 (by omega)
    exact zzends_any b off n c zs w h.1 hnc (by omega) h.2.1 hc

/-! ### The row that the appends fill -/
theorem own_made (w : World) (c : Nat) (hc : c ≤ 16777216) : (w.alloc (fresh c)).ownsRow w.heap.size 5 1 (.slice (some ⟨w.heap.size, 0, none⟩) 0 c) 0 [] := by
  refine ⟨rfl, .inr ⟨w.heap.size, c, _, rfl, Nat.le_refl _, fresh_row w c, Nat.zero_le _, by unfold maxLen; omega, by simp, by simp⟩⟩
theorem own_full {w : World} {base g n : Nat} {zs : List Int} (h : w.ownsRow base 5 1 (.slice (some ⟨g, 0, none⟩) n n) n (vals zs)) : Row w g zs := by
  obtain ⟨_, h | ⟨g', cap, cur, hv, hb, hg, hn, hm, hs, ht⟩⟩ := h
  · simp at h
  · cases hv
    have : cur.toList = vals zs := by rw [← ht, List.take_of_length_le (by simp [hs])]
    unfold Row
    rw [hg, ← this]
theorem make_zero (c : Nat) (hc : c ≤ 16777216) (w : World) : (Instr.makeSlice 22 (.int .i64 0) (.int .i64 (c : Int))).run Try.prog w = .ok (.slice (some ⟨w.heap.size, 0, none⟩) 0 c) (w.alloc (fresh c)) := make_run 0 c (by omega) hc w
theorem vals_app (xs ys : List Int) : vals xs ++ vals ys = vals (xs ++ ys) := by simp [vals]

theorem grow_some {B : Nat} {a w w' : World} (h : Below B a w) (hg : w.grownBy w' (some B)) (hB : B ≤ w.heap.size) : Below B a w' :=
  h.grown hg hB (fun k e => by cases e; exact Nat.le_refl _)
theorem cell_new (w : World) (v : Value) : ∀ j u, [v][j]? = some u → (w.alloc (.cells #[v] 5)).cell? ((⟨w.heap.size, 0, none⟩ : Addr).add j) = some u := by
  intro j u hj
  match j, hj with
  | 0, hj =>
    simp at hj; subst hj
    rw [Addr.add_lit, Nat.zero_add, cell_of_row _ _ _ _ _ _ (heap_alloc_new w (.cells #[v] 5))]
    rfl
theorem len_of {w : World} {a : Option Addr} {n : Nat} {zs : List Int} (h : Came w a n zs) : (vals zs).length = n * 1 := by rw [vals_length, h.1, Nat.mul_one]
theorem own_first {w : World} {B n cap : Nat} {zs : List Int} (h : w.ownsRow B 5 1 (.slice (some ⟨B, 0, none⟩) (0 + n) cap) (0 + n) ([] ++ vals zs)) : w.ownsRow B 5 1 (.slice (some ⟨B, 0, none⟩) n cap) n (vals zs) := by
  rw [Nat.zero_add, List.nil_append] at h; exact h
theorem own_sep {w : World} {B n cap : Nat} {zs : List Int} {v : Int} (h : w.ownsRow B 5 1 (.slice (some ⟨B, 0, none⟩) (n + 1) cap) (n + 1) (vals zs ++ [.int .u8 v])) : w.ownsRow B 5 1 (.slice (some ⟨B, 0, none⟩) (n + 1) cap) (n + 1) (vals (zs ++ [v])) := by
  have e : vals zs ++ [Value.int .u8 v] = vals (zs ++ [v]) := vals_app zs [v]
  rw [e] at h; exact h
theorem own_last {w : World} {B n m : Nat} {zs ss : List Int} {v : Int} (h : w.ownsRow B 5 1 (.slice (some ⟨B, 0, none⟩) (n + 1 + m) (n + 1 + m)) (n + 1 + m) (vals (zs ++ [v]) ++ vals ss)) : Row w B (zs ++ v :: ss) := by
  rw [vals_app] at h
  have := own_full h
  simpa using this
theorem bytes_app {xs ys : List Int} (h : Bytes xs) (k : Bytes ys) : Bytes (xs ++ ys) := by
  intro n hn
  rcases List.mem_append.1 hn with hn | hn
  · exact h n hn
  · exact k n hn
theorem bytes_cons {x : Int} {ys : List Int} (h : 0 ≤ x ∧ x ≤ 255) (k : Bytes ys) : Bytes (x :: ys) := by
  intro n hn
  rcases List.mem_cons.1 hn with rfl | hn
  · exact h
  · exact k n hn
/-- The joined row, as a slice. -/
theorem came_joined {w wb w' w'' : World} {a a1 : Option Addr} {B n m : Nat} {zs ss : List Int} {v : Int} (h : Came w a n zs) (k : Came wb a1 m ss) (hv : 0 ≤ v ∧ v ≤ 255) (hr : Row w' B (zs ++ v :: ss)) (hB : Below w'.heap.size w' w'') :
    Came w'' (some ⟨B, 0, none⟩) (n + 1 + m) (zs ++ v :: ss) :=
  came_below (came_row (by simp [h.1, k.1]; omega) (bytes_app h.2.1 (bytes_cons hv k.2.1)) hr) hB

theorem came_source {w : World} {x : Addr} {n : Nat} {zs : List Int} (h : Came w (some x) n zs) (o : Obj) : Src w (some x) zs o := came_src h.1 h.2.2 o
theorem copy_len {w : World} {a : Option Addr} {n : Nat} {zs : List Int} (h : Came w a n zs) : (vals zs).length = Nat.min n n := by rw [vals_length, h.1]; exact (Nat.min_eq_left (Nat.le_refl _)).symm
theorem copy_fit {w : World} {a : Option Addr} {n : Nat} {zs : List Int} (h : Came w a n zs) : 0 + (vals zs).length ≤ (List.replicate n (Value.int .u8 0)).length := by rw [vals_length, h.1, List.length_replicate]; omega
theorem copied {w w2 : World} {a : Option Addr} {g n : Nat} {zs : List Int} (h : Came w a n zs) (hg : w2.heap[g]? = some (.cells (splice (List.replicate n (Value.int .u8 0)) 0 (vals zs)).toArray 5 (0, 0))) : Row w2 g zs := by
  have e : splice (List.replicate n (Value.int .u8 0)) 0 (vals zs) = vals zs := by
    have hl : (vals zs).length = n := by rw [vals_length, h.1]
    simp [splice, hl]
  rw [e] at hg
  exact hg

/-- A nil slice has no length and no room. -/
def NilOk (a : Option Addr) (n c : Nat) : Prop := a = none → n = 0 ∧ c = 0

theorem came_nil {w : World} {a : Option Addr} {len cap : Nat} {zs : List Int} (h : (a = none ∧ len = 0 ∧ cap = 0 ∧ zs = []) ∨
    ∃ x, a = some x ∧ len ≤ cap ∧ cap ≤ maxLen ∧ zs.length = cap ∧ (∀ i, i < zs.length → w.cell? (x.add i) = some (.int .u8 (zs.getD i 0))) ∧ ∀ n ∈ zs, (Lit.int .u8 n).wf = true) :
    len ≤ cap ∧ NilOk a len cap := by
  rcases h with ⟨rfl, rfl, rfl, rfl⟩ | ⟨x, rfl, hl, _⟩
  · exact ⟨Nat.le_refl _, fun _ => ⟨rfl, rfl⟩⟩
  · exact ⟨hl, fun h => by cases h⟩
theorem nil_not (x : Addr) (n c : Nat) : NilOk (some x) n c := fun h => by cases h
theorem zzends_join (B n : Nat) (zs ss : List Int) (v : Int) (w : World) (hv : wsB v = true) (h : Came w (some ⟨B, 0, none⟩) n (zs ++ v :: ss)) :
    Calls Try.prog 7 #[.slice (some ⟨B, 0, none⟩) n n] w fun e w' => e = .returned (.bool (tokB zs)) ∧ w' = w.alloc dots := by
  rw [← tok_sep zs ss v hv]
  exact zzends_came _ n n _ w (Nat.le_refl _) h

set_option maxHeartbeats 2000000 in
set_option maxRecDepth 100000 in
theorem law3 (a0 : Option Addr) (n c : Nat) (zs : List Int) (a1 : Option Addr) (m d : Nat) (ss : List Int) (t : Bool) (w : World) (hm : n ≤ maxLen) (hm1 : m ≤ maxLen) (hlc : n ≤ c)
    (hC : Came w a0 n zs) (hn0 : NilOk a0 n c) (hC1 : Came w a1 m ss) (hns : NilOk a1 m d) :
    Calls Try.prog 3 #[.slice a0 n c, .slice a1 m d, .bool t] w fun e w' => e = .returned (.bool true) ∧ Below w.heap.size w w' := by
  by_cases hz : n + m ≤ 1048576
  · have hzz : zzB n m = true := zz_yes hz
    by_cases h0 : n ≤ 65536
    · by_cases h1 : m ≤ 65536
      · obtain ⟨i0, hi, hz0, hz1, hz2⟩ := info_parts info5
        have hne := fun (w : World) (a : Option Addr) (n c : Nat) => run_neq_slice_nil_any (P := Try.prog) w 22 5 a n c 0 0 Try.underlying22
        have hmk2 : ∀ w : World, (Instr.makeSlice 22 (.int .i64 0) (.int .i64 ((n : Int) + 1 + (m : Int)))).run Try.prog w = .ok (.slice (some ⟨w.heap.size, 0, none⟩) 0 (n + 1 + m)) (w.alloc (fresh (n + 1 + m))) := fun w => make_zero (n + 1 + m) (by omega) w
        cases a0 with
        | none =>
          have hCl := hC
          have hCs := hC1
          have hnl := hn0
          clear hC hC1 hn0
          cases t
          · go_enter Try.func3, Try.ntmps3
            go_upto_region 15 with (go_at_call 5; refine (zz5_any none n c a1 m d _ _ hm hm1).mono ?_; rintro e w1 ⟨rfl, hw⟩; replace hw := hw.symm; subst hw)
            have own0 := own_made w (n + 1 + m) (by omega)
            have hb0 : Below w.heap.size w (w.alloc (fresh (n + 1 + m))) := (Below.refl _ _).alloc (Nat.le_refl _) _
            have C1 := came_below hCl hb0
            go_upto_region 16 with (at_builtin; refine wpList_append_fits_any _ rfl (.tmp 39) (.tmp 40) 22 rfl w.heap.size 5 i0 1 Try.underlying22 hi hz1 w.heap.size 0 (n + 1 + m) [] rfl own0 none n c (vals zs) rfl (len_of C1) hnl (came_cells C1) (vals_one zs) (by omega) ?_; intro w4 own1 grow1)
            have own1' := own_first own1
            have hb1 : Below w.heap.size w w4 := grow_some hb0 grow1 hb0.size
            clear own1 grow1 C1 own0 hb0
            have own1a := own1'.alloc (.cells #[.int .u8 32] 5)
            have hb1a : Below w.heap.size w (w4.alloc (.cells #[.int .u8 32] 5)) := hb1.alloc hb1.size _
            clear own1'
            go_upto_region 17 with (at_builtin; refine wpList_append_fits _ rfl (.tmp 42) (.tmp 44) 22 rfl w.heap.size 5 i0 1 Try.underlying22 hi hz1 w.heap.size n (n + 1 + m) (vals zs) rfl own1a ⟨w4.heap.size, 0, none⟩ 1 1 [.int .u8 32] rfl rfl (cell_new w4 _) (vals_one [32]) (by omega) ?_; intro w5 own2 grow2)
            have own2' := own_sep own2
            have hb2 : Below w.heap.size w w5 := grow_some hb1a grow2 hb1a.size
            clear own2 grow2 own1a hb1a hb1
            have C2 := came_below hCs hb2
            go_upto_region 18 with (at_builtin; refine wpList_append_fits_any _ rfl (.tmp 46) (.tmp 47) 22 rfl w.heap.size 5 i0 1 Try.underlying22 hi hz1 w.heap.size (n + 1) (n + 1 + m) (vals (zs ++ [32])) rfl own2' a1 m d (vals ss) rfl (len_of C2) hns (came_cells C2) (vals_one ss) (by omega) ?_; intro w6 own3 grow3)
            have hrow := own_last own3
            have hb3 : Below w.heap.size w w6 := grow_some hb2 grow3 hb2.size
            clear own3 grow3 C2 own2' hb2
            have C3 := came_below hCl hb3
            have C4 := came_joined (n := n) (m := m) hCl hCs (by omega) hrow ((Below.refl _ _).alloc (Nat.le_refl _) dots)
            go_wp2_with fail
            refine (first_came none n c zs _ (by omega) C3).mono ?_
            rintro e w7 ⟨rfl, hw7⟩
            replace hw7 := hw7.symm
            subst hw7
            go_wp2_with fail
            refine (zzends_came none n c zs _ hlc C3).mono ?_
            rintro e w7 ⟨rfl, hw7⟩
            replace hw7 := hw7.symm
            subst hw7
            go_wp2_with fail
            refine (zzends_join w.heap.size (n + 1 + m) zs ss 32 _ (by decide) C4).mono ?_
            rintro e w7 ⟨rfl, hw7⟩
            replace hw7 := hw7.symm
            subst hw7
            go_wp2_with fail
            go_ret
            exact ⟨rfl, (hb3.alloc hb3.size _).alloc (Nat.le_trans hb3.size (by simp)) _⟩
          · go_enter Try.func3, Try.ntmps3
            go_upto_region 15 with (go_at_call 5; refine (zz5_any none n c a1 m d _ _ hm hm1).mono ?_; rintro e w1 ⟨rfl, hw⟩; replace hw := hw.symm; subst hw)
            have own0 := own_made w (n + 1 + m) (by omega)
            have hb0 : Below w.heap.size w (w.alloc (fresh (n + 1 + m))) := (Below.refl _ _).alloc (Nat.le_refl _) _
            have C1 := came_below hCl hb0
            go_upto_region 16 with (at_builtin; refine wpList_append_fits_any _ rfl (.tmp 39) (.tmp 40) 22 rfl w.heap.size 5 i0 1 Try.underlying22 hi hz1 w.heap.size 0 (n + 1 + m) [] rfl own0 none n c (vals zs) rfl (len_of C1) hnl (came_cells C1) (vals_one zs) (by omega) ?_; intro w4 own1 grow1)
            have own1' := own_first own1
            have hb1 : Below w.heap.size w w4 := grow_some hb0 grow1 hb0.size
            clear own1 grow1 C1 own0 hb0
            have own1a := own1'.alloc (.cells #[.int .u8 9] 5)
            have hb1a : Below w.heap.size w (w4.alloc (.cells #[.int .u8 9] 5)) := hb1.alloc hb1.size _
            clear own1'
            go_upto_region 17 with (at_builtin; refine wpList_append_fits _ rfl (.tmp 42) (.tmp 44) 22 rfl w.heap.size 5 i0 1 Try.underlying22 hi hz1 w.heap.size n (n + 1 + m) (vals zs) rfl own1a ⟨w4.heap.size, 0, none⟩ 1 1 [.int .u8 9] rfl rfl (cell_new w4 _) (vals_one [9]) (by omega) ?_; intro w5 own2 grow2)
            have own2' := own_sep own2
            have hb2 : Below w.heap.size w w5 := grow_some hb1a grow2 hb1a.size
            clear own2 grow2 own1a hb1a hb1
            have C2 := came_below hCs hb2
            go_upto_region 18 with (at_builtin; refine wpList_append_fits_any _ rfl (.tmp 46) (.tmp 47) 22 rfl w.heap.size 5 i0 1 Try.underlying22 hi hz1 w.heap.size (n + 1) (n + 1 + m) (vals (zs ++ [9])) rfl own2' a1 m d (vals ss) rfl (len_of C2) hns (came_cells C2) (vals_one ss) (by omega) ?_; intro w6 own3 grow3)
            have hrow := own_last own3
            have hb3 : Below w.heap.size w w6 := grow_some hb2 grow3 hb2.size
            clear own3 grow3 C2 own2' hb2
            have C3 := came_below hCl hb3
            have C4 := came_joined (n := n) (m := m) hCl hCs (by omega) hrow ((Below.refl _ _).alloc (Nat.le_refl _) dots)
            go_wp2_with fail
            refine (first_came none n c zs _ (by omega) C3).mono ?_
            rintro e w7 ⟨rfl, hw7⟩
            replace hw7 := hw7.symm
            subst hw7
            go_wp2_with fail
            refine (zzends_came none n c zs _ hlc C3).mono ?_
            rintro e w7 ⟨rfl, hw7⟩
            replace hw7 := hw7.symm
            subst hw7
            go_wp2_with fail
            refine (zzends_join w.heap.size (n + 1 + m) zs ss 9 _ (by decide) C4).mono ?_
            rintro e w7 ⟨rfl, hw7⟩
            replace hw7 := hw7.symm
            subst hw7
            go_wp2_with fail
            go_ret
            exact ⟨rfl, (hb3.alloc hb3.size _).alloc (Nat.le_trans hb3.size (by simp)) _⟩
        | some x =>
          have hmk1 : ∀ w : World, (Instr.makeSlice 22 (.int .i64 (n : Int)) (.int .i64 (n : Int))).run Try.prog w = .ok (.slice (some ⟨w.heap.size, 0, none⟩) n n) (w.alloc (fresh n)) := fun w => make_run n n (Nat.le_refl _) (by omega) w
          have S0 := came_source hC (fresh n)
          have hb00 : Below w.heap.size w (w.alloc (fresh n)) := (Below.refl _ _).alloc (Nat.le_refl _) _
          cases t
          · go_enter Try.func3, Try.ntmps3
            go_upto_region 15 with (first | (go_at_call 5; refine (zz5_any (some x) n c a1 m d _ _ hm hm1).mono ?_; rintro e w1 ⟨rfl, hw⟩; replace hw := hw.symm; subst hw) | (refine wpList_copy_splice rfl (.tmp 27) (.tmp 28) 22 22 rfl 5 Try.underlying22 size5 _ _ _ _ _ _ rfl rfl w.heap.size 0 (List.replicate n (.int .u8 0)) 5 (fresh_row w n) (vals zs) (copy_len hC) (src_out S0 _) (copy_fit hC) (vals_one zs) w.heap.size w hb00 (Nat.le_refl _) ?_; intro w2 HG2 hB2))
            have hrow0 : Row w2 w.heap.size zs := copied hC HG2.out
            have hCl := came_row hC.1 hC.2.1 hrow0
            have hCs := came_below hC1 hB2
            have hnl : NilOk (some ⟨w.heap.size, 0, none⟩) n n := nil_not _ _ _
            clear HG2 hb00 S0 hC hC1 hn0
            replace hlc : n ≤ n := Nat.le_refl n
            have own0 := own_made w2 (n + 1 + m) (by omega)
            have hb0 : Below w2.heap.size w2 (w2.alloc (fresh (n + 1 + m))) := (Below.refl _ _).alloc (Nat.le_refl _) _
            have C1 := came_below hCl hb0
            go_upto_region 16 with (at_builtin; refine wpList_append_fits_any _ rfl (.tmp 39) (.tmp 40) 22 rfl w2.heap.size 5 i0 1 Try.underlying22 hi hz1 w2.heap.size 0 (n + 1 + m) [] rfl own0 (some ⟨w.heap.size, 0, none⟩) n n (vals zs) rfl (len_of C1) hnl (came_cells C1) (vals_one zs) (by omega) ?_; intro w4 own1 grow1)
            have own1' := own_first own1
            have hb1 : Below w2.heap.size w2 w4 := grow_some hb0 grow1 hb0.size
            clear own1 grow1 C1 own0 hb0
            have own1a := own1'.alloc (.cells #[.int .u8 32] 5)
            have hb1a : Below w2.heap.size w2 (w4.alloc (.cells #[.int .u8 32] 5)) := hb1.alloc hb1.size _
            clear own1'
            go_upto_region 17 with (at_builtin; refine wpList_append_fits _ rfl (.tmp 42) (.tmp 44) 22 rfl w2.heap.size 5 i0 1 Try.underlying22 hi hz1 w2.heap.size n (n + 1 + m) (vals zs) rfl own1a ⟨w4.heap.size, 0, none⟩ 1 1 [.int .u8 32] rfl rfl (cell_new w4 _) (vals_one [32]) (by omega) ?_; intro w5 own2 grow2)
            have own2' := own_sep own2
            have hb2 : Below w2.heap.size w2 w5 := grow_some hb1a grow2 hb1a.size
            clear own2 grow2 own1a hb1a hb1
            have C2 := came_below hCs hb2
            go_upto_region 18 with (at_builtin; refine wpList_append_fits_any _ rfl (.tmp 46) (.tmp 47) 22 rfl w2.heap.size 5 i0 1 Try.underlying22 hi hz1 w2.heap.size (n + 1) (n + 1 + m) (vals (zs ++ [32])) rfl own2' a1 m d (vals ss) rfl (len_of C2) hns (came_cells C2) (vals_one ss) (by omega) ?_; intro w6 own3 grow3)
            have hrow := own_last own3
            have hb3 : Below w2.heap.size w2 w6 := grow_some hb2 grow3 hb2.size
            clear own3 grow3 C2 own2' hb2
            have C3 := came_below hCl hb3
            have C4 := came_joined (n := n) (m := m) hCl hCs (by omega) hrow ((Below.refl _ _).alloc (Nat.le_refl _) dots)
            go_wp2_with fail
            refine (first_came (some ⟨w.heap.size, 0, none⟩) n n zs _ (by omega) C3).mono ?_
            rintro e w7 ⟨rfl, hw7⟩
            replace hw7 := hw7.symm
            subst hw7
            go_wp2_with fail
            refine (zzends_came (some ⟨w.heap.size, 0, none⟩) n n zs _ hlc C3).mono ?_
            rintro e w7 ⟨rfl, hw7⟩
            replace hw7 := hw7.symm
            subst hw7
            go_wp2_with fail
            refine (zzends_join w2.heap.size (n + 1 + m) zs ss 32 _ (by decide) C4).mono ?_
            rintro e w7 ⟨rfl, hw7⟩
            replace hw7 := hw7.symm
            subst hw7
            go_wp2_with fail
            go_ret
            exact ⟨rfl, hB2.trans (((hb3.alloc hb3.size _).alloc (Nat.le_trans hb3.size (by simp)) _).mono hB2.size)⟩
          · go_enter Try.func3, Try.ntmps3
            go_upto_region 15 with (first | (go_at_call 5; refine (zz5_any (some x) n c a1 m d _ _ hm hm1).mono ?_; rintro e w1 ⟨rfl, hw⟩; replace hw := hw.symm; subst hw) | (refine wpList_copy_splice rfl (.tmp 27) (.tmp 28) 22 22 rfl 5 Try.underlying22 size5 _ _ _ _ _ _ rfl rfl w.heap.size 0 (List.replicate n (.int .u8 0)) 5 (fresh_row w n) (vals zs) (copy_len hC) (src_out S0 _) (copy_fit hC) (vals_one zs) w.heap.size w hb00 (Nat.le_refl _) ?_; intro w2 HG2 hB2))
            have hrow0 : Row w2 w.heap.size zs := copied hC HG2.out
            have hCl := came_row hC.1 hC.2.1 hrow0
            have hCs := came_below hC1 hB2
            have hnl : NilOk (some ⟨w.heap.size, 0, none⟩) n n := nil_not _ _ _
            clear HG2 hb00 S0 hC hC1 hn0
            replace hlc : n ≤ n := Nat.le_refl n
            have own0 := own_made w2 (n + 1 + m) (by omega)
            have hb0 : Below w2.heap.size w2 (w2.alloc (fresh (n + 1 + m))) := (Below.refl _ _).alloc (Nat.le_refl _) _
            have C1 := came_below hCl hb0
            go_upto_region 16 with (at_builtin; refine wpList_append_fits_any _ rfl (.tmp 39) (.tmp 40) 22 rfl w2.heap.size 5 i0 1 Try.underlying22 hi hz1 w2.heap.size 0 (n + 1 + m) [] rfl own0 (some ⟨w.heap.size, 0, none⟩) n n (vals zs) rfl (len_of C1) hnl (came_cells C1) (vals_one zs) (by omega) ?_; intro w4 own1 grow1)
            have own1' := own_first own1
            have hb1 : Below w2.heap.size w2 w4 := grow_some hb0 grow1 hb0.size
            clear own1 grow1 C1 own0 hb0
            have own1a := own1'.alloc (.cells #[.int .u8 9] 5)
            have hb1a : Below w2.heap.size w2 (w4.alloc (.cells #[.int .u8 9] 5)) := hb1.alloc hb1.size _
            clear own1'
            go_upto_region 17 with (at_builtin; refine wpList_append_fits _ rfl (.tmp 42) (.tmp 44) 22 rfl w2.heap.size 5 i0 1 Try.underlying22 hi hz1 w2.heap.size n (n + 1 + m) (vals zs) rfl own1a ⟨w4.heap.size, 0, none⟩ 1 1 [.int .u8 9] rfl rfl (cell_new w4 _) (vals_one [9]) (by omega) ?_; intro w5 own2 grow2)
            have own2' := own_sep own2
            have hb2 : Below w2.heap.size w2 w5 := grow_some hb1a grow2 hb1a.size
            clear own2 grow2 own1a hb1a hb1
            have C2 := came_below hCs hb2
            go_upto_region 18 with (at_builtin; refine wpList_append_fits_any _ rfl (.tmp 46) (.tmp 47) 22 rfl w2.heap.size 5 i0 1 Try.underlying22 hi hz1 w2.heap.size (n + 1) (n + 1 + m) (vals (zs ++ [9])) rfl own2' a1 m d (vals ss) rfl (len_of C2) hns (came_cells C2) (vals_one ss) (by omega) ?_; intro w6 own3 grow3)
            have hrow := own_last own3
            have hb3 : Below w2.heap.size w2 w6 := grow_some hb2 grow3 hb2.size
            clear own3 grow3 C2 own2' hb2
            have C3 := came_below hCl hb3
            have C4 := came_joined (n := n) (m := m) hCl hCs (by omega) hrow ((Below.refl _ _).alloc (Nat.le_refl _) dots)
            go_wp2_with fail
            refine (first_came (some ⟨w.heap.size, 0, none⟩) n n zs _ (by omega) C3).mono ?_
            rintro e w7 ⟨rfl, hw7⟩
            replace hw7 := hw7.symm
            subst hw7
            go_wp2_with fail
            refine (zzends_came (some ⟨w.heap.size, 0, none⟩) n n zs _ hlc C3).mono ?_
            rintro e w7 ⟨rfl, hw7⟩
            replace hw7 := hw7.symm
            subst hw7
            go_wp2_with fail
            refine (zzends_join w2.heap.size (n + 1 + m) zs ss 9 _ (by decide) C4).mono ?_
            rintro e w7 ⟨rfl, hw7⟩
            replace hw7 := hw7.symm
            subst hw7
            go_wp2_with fail
            go_ret
            exact ⟨rfl, hB2.trans (((hb3.alloc hb3.size _).alloc (Nat.le_trans hb3.size (by simp)) _).mono hB2.size)⟩
      · go_enter Try.func3, Try.ntmps3
        go_wp2_with (go_at_call 5; refine (zz5_any a0 n c a1 m d _ _ hm hm1).mono ?_; rintro e w1 ⟨rfl, hw⟩; replace hw := hw.symm; subst hw)
        go_ret
        exact ⟨rfl, Below.refl _ _⟩
    · go_enter Try.func3, Try.ntmps3
      go_wp2_with (go_at_call 5; refine (zz5_any a0 n c a1 m d _ _ hm hm1).mono ?_; rintro e w1 ⟨rfl, hw⟩; replace hw := hw.symm; subst hw)
      go_ret
      exact ⟨rfl, Below.refl _ _⟩
  · have hzz : zzB n m = false := zz_no hz
    go_enter Try.func3, Try.ntmps3
    go_wp2_with (go_at_call 5; refine (zz5_any a0 n c a1 m d _ _ hm hm1).mono ?_; rintro e w1 ⟨rfl, hw⟩; replace hw := hw.symm; subst hw)
    go_ret
    exact ⟨rfl, Below.refl _ _⟩

end Go.Proofs.Qxb6618671a.Ed
