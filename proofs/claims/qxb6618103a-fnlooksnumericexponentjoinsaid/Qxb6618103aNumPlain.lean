namespace Go.Proofs.Qxb6618103a.Num

def digB (c : UInt8) : Bool := decide (48 ≤ c.toNat ∧ c.toNat ≤ 57)
def signB (c : UInt8) : Bool := decide (c.toNat = 43 ∨ c.toNat = 45)
def markB (c : UInt8) : Bool := decide (c.toNat = 101 ∨ c.toNat = 69)
def dotB (c : UInt8) : Bool := decide (c.toNat = 46)

/-- The automaton's step. -/
def step (st : Nat) (c : UInt8) : Nat := match st with
  | 0 => if signB c then 1 else if digB c then 2 else 8
  | 1 => if digB c then 2 else 8
  | 2 => if digB c then 2 else if dotB c then 3 else if markB c then 5 else 8
  | 3 => if digB c then 4 else 8
  | 4 => if digB c then 4 else if markB c then 5 else 8
  | 5 => if signB c then 6 else if digB c then 7 else 8
  | 6 => if digB c then 7 else 8
  | 7 => if digB c then 7 else 8
  | _ => 8
def run (st : Nat) : List UInt8 → Nat
  | [] => st
  | c :: l => run (step st c) l
def acc (st : Nat) : Bool := decide (st = 2 ∨ st = 4 ∨ st = 7)
def autB (l : List UInt8) : Bool := acc (run 0 l)

theorem step_dead (c : UInt8) : step 8 c = 8 := rfl
theorem run_dead (l : List UInt8) : run 8 l = 8 := by
  induction l with
  | nil => rfl
  | cons c l ih => simp [run, step_dead, ih]
theorem run_append (a b : List UInt8) : ∀ st, run st (a ++ b) = run (run st a) b := by
  induction a with
  | nil => intro st; rfl
  | cons c a ih => intro st; simp [run, ih]

/-- looksNumeric, on what is left of the text. -/
def skipSign : List UInt8 → List UInt8
  | [] => []
  | c :: l => if signB c then l else c :: l
def skipDigs : List UInt8 → List UInt8
  | [] => []
  | c :: l => if digB c then skipDigs l else c :: l
/-- At least one digit, then what is left; none where there is no digit. -/
def digs (l : List UInt8) : Option (List UInt8) := if (skipDigs l).length < l.length then some (skipDigs l) else none
def expPart (l : List UInt8) : Bool := match l with
  | [] => true
  | c :: r => if markB c then (match digs (skipSign r) with | none => false | some q => q.isEmpty) else false
def fracPart (l : List UInt8) : Bool := match l with
  | [] => true
  | c :: r => if dotB c then (match digs r with | none => false | some q => expPart q) else expPart (c :: r)
def looksB (l : List UInt8) : Bool := match digs (skipSign l) with
  | none => false
  | some q => fracPart q

theorem skipDigs_le (l : List UInt8) : (skipDigs l).length ≤ l.length := by
  induction l with
  | nil => simp [skipDigs]
  | cons c l ih => unfold skipDigs; split <;> simp; omega

theorem digs_cons (c : UInt8) (l : List UInt8) : digs (c :: l) = if digB c then some (skipDigs l) else none := by
  unfold digs
  have := skipDigs_le l
  by_cases h : digB c
  · rw [if_pos h]
    simp only [skipDigs, if_pos h, List.length_cons]
    rw [if_pos (by omega)]
  · rw [if_neg h]
    simp only [skipDigs, if_neg h, List.length_cons]
    rw [if_neg (by omega)]

theorem not_both (c : UInt8) : (digB c = true → signB c = false ∧ dotB c = false ∧ markB c = false) ∧ (signB c = true → digB c = false ∧ dotB c = false ∧ markB c = false) ∧ (dotB c = true → markB c = false) := by
  simp [digB, signB, dotB, markB]; omega

theorem acc8 (l : List UInt8) : acc (run 8 l) = false := by rw [run_dead]; rfl

theorem run7 (l : List UInt8) : acc (run 7 l) = (skipDigs l).isEmpty := by
  induction l with
  | nil => rfl
  | cons c l ih =>
    simp only [run, step, skipDigs]
    by_cases h : digB c
    · simp [h, ih]
    · simp [h, acc8]

theorem run6 (l : List UInt8) : acc (run 6 l) = match digs l with | none => false | some q => q.isEmpty := by
  cases l with
  | nil => rfl
  | cons c l =>
    rw [digs_cons]
    simp only [run, step]
    by_cases h : digB c
    · simp [h, run7]
    · simp [h, acc8]

theorem run5 (l : List UInt8) : acc (run 5 l) = match digs (skipSign l) with | none => false | some q => q.isEmpty := by
  cases l with
  | nil => rfl
  | cons c l =>
    simp only [run, step, skipSign]
    by_cases hs : signB c
    · simp [hs, run6]
    · simp only [hs]
      simp only [Bool.false_eq_true, if_false]
      rw [digs_cons]
      by_cases h : digB c
      · simp [h, run7]
      · simp [h, acc8]

theorem run4 (l : List UInt8) : acc (run 4 l) = expPart (skipDigs l) := by
  induction l with
  | nil => rfl
  | cons c l ih =>
    simp only [run, step, skipDigs]
    by_cases h : digB c
    · simp [h, ih]
    · simp only [h, Bool.false_eq_true, if_false, expPart]
      by_cases hm : markB c
      · simp only [hm, if_true]; exact run5 l
      · simp [hm, acc8]

theorem run3 (l : List UInt8) : acc (run 3 l) = match digs l with | none => false | some q => expPart q := by
  cases l with
  | nil => rfl
  | cons c l =>
    rw [digs_cons]
    simp only [run, step]
    by_cases h : digB c
    · simp [h, run4]
    · simp [h, acc8]

theorem run2 (l : List UInt8) : acc (run 2 l) = fracPart (skipDigs l) := by
  induction l with
  | nil => rfl
  | cons c l ih =>
    simp only [run, step, skipDigs]
    by_cases h : digB c
    · simp [h, ih]
    · simp only [h, Bool.false_eq_true, if_false, fracPart]
      by_cases hd : dotB c
      · simp only [hd, if_true]; exact run3 l
      · simp only [hd, Bool.false_eq_true, if_false, expPart]
        by_cases hm : markB c
        · simp only [hm, if_true]; exact run5 l
        · simp [hm, acc8]

theorem run1 (l : List UInt8) : acc (run 1 l) = match digs l with | none => false | some q => fracPart q := by
  cases l with
  | nil => rfl
  | cons c l =>
    rw [digs_cons]
    simp only [run, step]
    by_cases h : digB c
    · simp [h, run2]
    · simp [h, acc8]

/-- looksNumeric and the automaton agree. -/
theorem looks_aut (l : List UInt8) : looksB l = autB l := by
  unfold autB
  cases l with
  | nil => rfl
  | cons c l =>
    simp only [run, step, looksB, skipSign]
    by_cases hs : signB c
    · simp only [hs, if_true]; exact (run1 l).symm
    · simp only [hs, Bool.false_eq_true, if_false]
      rw [digs_cons]
      by_cases h : digB c
      · simp [h, run2]
      · simp [h, acc8]

/-! The second law: s e t. -/
def hasB (c : UInt8) (l : List UInt8) : Bool := l.any (· == c)

/-- No mark in the text: the run ends at 0 to 4 or is dead. -/
theorem run_nomark (l : List UInt8) : ∀ st, st ≤ 4 → (l.any markB = false) → run st l ≤ 4 ∨ run st l = 8 := by
  induction l with
  | nil => intro st h _; exact .inl h
  | cons c l ih =>
    intro st h hm
    simp only [List.any_cons, Bool.or_eq_false_iff] at hm
    obtain ⟨hc, hl⟩ := hm
    simp only [run]
    have : step st c ≤ 4 ∨ step st c = 8 := by
      match st, h with
      | 0, _ => simp only [step]; split; · omega
                split <;> omega
      | 1, _ => simp only [step]; split <;> omega
      | 2, _ => simp only [step, hc]; split; · omega
                split; · omega
                simp
      | 3, _ => simp only [step]; split <;> omega
      | 4, _ => simp only [step, hc]; split; · omega
                simp
    rcases this with h' | h'
    · exact ih _ h' hl
    · rw [h', run_dead]; exact .inr rfl

/-- A mark is met: behind it the run stands at 5 to 8. -/
theorem run_high (l : List UInt8) : ∀ st, 5 ≤ st → 5 ≤ run st l ∧ (st ≤ 8 → run st l ≤ 8) := by
  induction l with
  | nil => intro st h; exact ⟨h, id⟩
  | cons c l ih =>
    intro st h
    have : 5 ≤ step st c ∧ step st c ≤ 8 := by
      unfold step
      split <;> first | omega | skip
      · split; · omega
        split <;> omega
      · split <;> omega
      · split <;> omega
    have := ih (step st c) this.1
    exact ⟨this.1, fun _ => this.2 (by omega)⟩

theorem step_mark (st : Nat) (c : UInt8) (h : markB c = true) : step st c = if st = 2 ∨ st = 4 then 5 else 8 := by
  have nb := not_both c
  have hd : digB c = false := by
    cases hd : digB c
    · rfl
    · have := (nb.1 hd).2.2; rw [h] at this; simp at this
  have hs : signB c = false := by
    cases hs : signB c
    · rfl
    · have := (nb.2.1 hs).2.2; rw [h] at this; simp at this
  have ht : dotB c = false := by
    cases ht : dotB c
    · rfl
    · have := nb.2.2 ht; rw [h] at this; simp at this
  match st with
  | 0 | 1 | 2 | 3 | 4 | 5 | 6 | 7 => simp [step, hd, hs, ht, h]
  | n + 8 => simp [step]

/-- A dot or a mark kills what stands at 5 or above. -/
theorem step_kill (st : Nat) (c : UInt8) (h5 : 5 ≤ st) (h : (dotB c || markB c) = true) : step st c = 8 := by
  have nb := not_both c
  have hd : digB c = false := by
    cases hd : digB c
    · rfl
    · have := (nb.1 hd).2; rw [this.1, this.2] at h; simp at h
  have hs : signB c = false := by
    cases hs : signB c
    · rfl
    · have := (nb.2.1 hs).2; rw [this.1, this.2] at h; simp at h
  match st, h5 with
  | 5, _ | 6, _ | 7, _ => simp [step, hd, hs]
  | n + 8, _ => simp [step]

theorem run_kill (l : List UInt8) : ∀ st, 5 ≤ st → l.any (fun c => dotB c || markB c) = true → run st l = 8 := by
  induction l with
  | nil => intro st _ h; simp at h
  | cons c l ih =>
    intro st h5 h
    simp only [run]
    by_cases hc : (dotB c || markB c) = true
    · rw [step_kill st c h5 hc, run_dead]
    · have hc' : (dotB c || markB c) = false := by simpa using hc
      simp only [List.any_cons, hc', Bool.false_or] at h
      have := (run_high [c] st h5).1
      exact ih _ this h

def lift (st : Nat) : Nat := if st = 0 then 5 else if st = 1 then 6 else if st = 2 then 7 else 8
theorem run_lift (l : List UInt8) : ∀ st, st ≤ 2 ∨ st = 8 → l.any (fun c => dotB c || markB c) = false → run (lift st) l = lift (run st l) ∧ (run st l ≤ 2 ∨ run st l = 8) := by
  induction l with
  | nil => intro st h _; exact ⟨rfl, h⟩
  | cons c l ih =>
    intro st h hm
    simp only [List.any_cons, Bool.or_eq_false_iff] at hm
    obtain ⟨⟨hd, hc⟩, hl⟩ := hm
    have key : step (lift st) c = lift (step st c) ∧ (step st c ≤ 2 ∨ step st c = 8) := by
      rcases h with h | h
      · match st, h with
        | 0, _ => cases hs : signB c <;> cases hg : digB c <;> simp [lift, step, hs, hg]
        | 1, _ => cases hg : digB c <;> simp [lift, step, hg]
        | 2, _ => cases hg : digB c <;> simp [lift, step, hg, hd, hc]
      · subst h; simp [lift, step]
    simp only [run]
    rw [key.1]
    exact ih _ key.2 hl

theorem aut_exp (t : List UInt8) : acc (run 5 t) = (autB t && !t.any (fun c => dotB c || markB c)) := by
  cases h : t.any (fun c => dotB c || markB c)
  · have := run_lift t 0 (.inl (by omega)) h
    have e : lift 0 = 5 := rfl
    rw [e] at this
    rw [this.1]
    unfold autB
    rcases this.2 with h' | h'
    · match run 0 t, h' with
      | 0, _ | 1, _ | 2, _ => rfl
    · rw [h']; rfl
  · rw [run_kill t 5 (by omega) h]; simp [acc]

theorem run_mark (s : List UInt8) : ∀ st, s.any markB = true → 5 ≤ run st s := by
  induction s with
  | nil => intro st h; simp at h
  | cons c l ih =>
    intro st h
    simp only [run]
    by_cases hc : markB c = true
    · rw [step_mark st c hc]
      exact (run_high l _ (by split <;> omega)).1
    · have hc' : markB c = false := by simpa using hc
      simp only [List.any_cons, hc', Bool.false_or] at h
      exact ih _ h

theorem aut_mant (s : List UInt8) : decide (run 0 s = 2 ∨ run 0 s = 4) = (autB s && !s.any markB) := by
  cases h : s.any markB
  · have := run_nomark s 0 (by omega) h
    unfold autB acc
    rw [Bool.eq_iff_iff]
    simp
    omega
  · have := run_mark s 0 h
    simp; omega

theorem mark101 : markB 101 = true := by decide

theorem any_has_mark (l : List UInt8) : l.any markB = (hasB 101 l || hasB 69 l) := by
  unfold hasB
  induction l with
  | nil => rfl
  | cons c l ih =>
    have : markB c = (c == 101 || c == 69) := by
      rw [Bool.eq_iff_iff]; simp [markB, ← UInt8.toNat_inj]
    simp only [List.any_cons, ih, this]
    cases (c == 101) <;> cases (c == 69) <;> simp

theorem any_has_dot (l : List UInt8) : l.any (fun c => dotB c || markB c) = (hasB 46 l || hasB 101 l || hasB 69 l) := by
  have h := any_has_mark l
  have : l.any (fun c => dotB c || markB c) = (hasB 46 l || l.any markB) := by
    unfold hasB
    clear h
    induction l with
    | nil => rfl
    | cons c l ih =>
      have : dotB c = (c == 46) := by
        rw [Bool.eq_iff_iff]; simp [dotB, ← UInt8.toNat_inj]
      simp only [List.any_cons, ih, this]
      cases (c == 46) <;> cases markB c <;> simp
  rw [this, h, Bool.or_assoc]

/-- The join law. -/
theorem aut_join (s t : List UInt8) : autB (s ++ 101 :: t) = (autB s && !hasB 101 s && !hasB 69 s && autB t && !hasB 46 t && !hasB 101 t && !hasB 69 t) := by
  have e : autB (s ++ 101 :: t) = (decide (run 0 s = 2 ∨ run 0 s = 4) && acc (run 5 t)) := by
    unfold autB
    rw [run_append]
    simp only [run]
    rw [step_mark _ _ mark101]
    by_cases h : run 0 s = 2 ∨ run 0 s = 4
    · simp [h]
    · simp [h, acc8]
  rw [e, aut_mant, aut_exp, any_has_mark, any_has_dot]
  simp only [Bool.not_or, Bool.and_assoc]

end Go.Proofs.Qxb6618103a.Num
