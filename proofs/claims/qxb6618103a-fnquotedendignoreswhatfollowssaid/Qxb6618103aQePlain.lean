namespace Go.Proofs.Qxb6618103a.Qe

/-- The quote scanner: 'true': the byte at hand is escaped. How many bytes up to and with the closing quote, if there is one. -/
def qf : Bool → List UInt8 → Option Nat
  | _, [] => none
  | true, _ :: l => (qf false l).map (· + 1)
  | false, c :: l => if c = 92 then (qf true l).map (· + 1) else if c = 34 then some 1 else (qf false l).map (· + 1)

/-- The model: 'r': how long the run of backslashes is that ends just before. -/
def cm : Nat → List UInt8 → Option Nat
  | _, [] => none
  | r, c :: l => if c = 34 then (if r % 2 = 0 then some 1 else (cm 0 l).map (· + 1)) else if c = 92 then (cm (r + 1) l).map (· + 1) else (cm 0 l).map (· + 1)

theorem cm_qf (l : List UInt8) : ∀ r, cm r l = qf (r % 2 == 1) l := by
  induction l with
  | nil => intro r; simp [cm, qf]
  | cons c l ih =>
    intro r
    rcases Nat.mod_two_eq_zero_or_one r with h | h
    · have h1 : (r + 1) % 2 = 1 := by omega
      simp only [cm, h, ih, h1]
      by_cases h34 : c = 34
      · subst h34; simp [qf]
      · by_cases h92 : c = 92
        · subst h92; simp [qf]
        · simp [h34, h92, qf]
    · have h1 : (r + 1) % 2 = 0 := by omega
      simp only [cm, h, ih, h1]
      by_cases h34 : c = 34
      · subst h34; simp [qf]
      · by_cases h92 : c = 92
        · subst h92; simp [qf]
        · simp [h34, h92, qf]

theorem qf_le (l : List UInt8) : ∀ e n, qf e l = some n → 1 ≤ n ∧ n ≤ l.length := by
  induction l with
  | nil => intro e n h; simp [qf] at h
  | cons c l ih =>
    intro e n h
    cases e with
    | true =>
      simp only [qf, Option.map_eq_some_iff] at h
      obtain ⟨m, hm, rfl⟩ := h
      have := ih _ _ hm
      simp; omega
    | false =>
      simp only [qf] at h
      split at h
      · simp only [Option.map_eq_some_iff] at h
        obtain ⟨m, hm, rfl⟩ := h
        have := ih _ _ hm
        simp; omega
      · split at h
        · simp at h; subst h; simp
        · simp only [Option.map_eq_some_iff] at h
          obtain ⟨m, hm, rfl⟩ := h
          have := ih _ _ hm
          simp; omega

/-- Once closed, what follows changes nothing. -/
theorem qf_append_some (t l : List UInt8) : ∀ e n, qf e l = some n → qf e (l ++ t) = some n := by
  induction l with
  | nil => intro e n h; simp [qf] at h
  | cons c l ih =>
    intro e n h
    cases e with
    | true =>
      simp only [qf, Option.map_eq_some_iff] at h
      obtain ⟨m, hm, rfl⟩ := h
      simp [qf, ih _ _ hm]
    | false =>
      simp only [qf, List.cons_append] at h ⊢
      by_cases h92 : c = 92
      · rw [if_pos h92] at h ⊢
        simp only [Option.map_eq_some_iff] at h
        obtain ⟨m, hm, rfl⟩ := h
        simp [ih _ _ hm]
      · rw [if_neg h92] at h ⊢
        by_cases h34 : c = 34
        · rw [if_pos h34] at h ⊢; exact h
        · rw [if_neg h34] at h ⊢
          simp only [Option.map_eq_some_iff] at h
          obtain ⟨m, hm, rfl⟩ := h
          simp [ih _ _ hm]

/-- Not closed: a close in the longer text lies past the shorter. -/
theorem qf_append_none (t l : List UInt8) : ∀ e n, qf e l = none → qf e (l ++ t) = some n → l.length < n := by
  induction l with
  | nil => intro e n _ h; have := qf_le t e n (by simpa using h); simp; omega
  | cons c l ih =>
    intro e n h h'
    cases e with
    | true =>
      simp only [qf, List.cons_append, Option.map_eq_none_iff, Option.map_eq_some_iff] at h h'
      obtain ⟨m, hm, rfl⟩ := h'
      have := ih _ _ h hm
      simp; omega
    | false =>
      simp only [qf, List.cons_append] at h h'
      by_cases h92 : c = 92
      · rw [if_pos h92] at h h'
        simp only [Option.map_eq_none_iff, Option.map_eq_some_iff] at h h'
        obtain ⟨m, hm, rfl⟩ := h'
        have := ih _ _ h hm
        simp; omega
      · rw [if_neg h92] at h h'
        by_cases h34 : c = 34
        · rw [if_pos h34] at h; simp at h
        · rw [if_neg h34] at h h'
          simp only [Option.map_eq_none_iff, Option.map_eq_some_iff] at h h'
          obtain ⟨m, hm, rfl⟩ := h'
          have := ih _ _ h hm
          simp; omega

/-- The answer of a scan that stands at place k of s: the place behind the quote, else the length. -/
def endAt (s : ByteArray) (k : Nat) : Nat := match qf false (s.data.toList.drop k) with
  | some n => k + n
  | none => s.size
def okAt (s : ByteArray) (k : Nat) : Bool := (qf false (s.data.toList.drop k)).isSome

theorem drop_at (s : ByteArray) (k : Nat) (h : k < s.size) : s.data.toList.drop k = s[k] :: s.data.toList.drop (k + 1) := by
  rw [List.drop_eq_getElem_cons (by simpa using h)]; rfl

theorem drop_past (s : ByteArray) (k : Nat) (h : s.size ≤ k) : s.data.toList.drop k = [] :=
  List.drop_eq_nil_of_le (by simpa using h)

theorem at_past (s : ByteArray) (k : Nat) (h : s.size ≤ k) : endAt s k = s.size ∧ okAt s k = false := by
  simp [endAt, okAt, drop_past s k h, qf]

theorem at_other (s : ByteArray) (k : Nat) (h : k < s.size) (h92 : s[k] ≠ 92) (h34 : s[k] ≠ 34) : endAt s k = endAt s (k + 1) ∧ okAt s k = okAt s (k + 1) := by
  unfold endAt okAt
  rw [drop_at s k h]
  simp only [qf, if_neg h92, if_neg h34]
  cases qf false (s.data.toList.drop (k + 1)) <;> simp
  omega

theorem at_quote (s : ByteArray) (k : Nat) (h : k < s.size) (h34 : s[k] = 34) : endAt s k = k + 1 ∧ okAt s k = true := by
  unfold endAt okAt
  rw [drop_at s k h, h34]
  simp [qf]

theorem at_slash (s : ByteArray) (k : Nat) (h : k < s.size) (h92 : s[k] = 92) : endAt s k = endAt s (k + 2) ∧ okAt s k = okAt s (k + 2) := by
  unfold endAt okAt
  rw [drop_at s k h, h92]
  simp only [qf, if_true]
  by_cases h1 : k + 1 < s.size
  · rw [drop_at s (k + 1) h1]
    simp only [qf]
    cases qf false (s.data.toList.drop (k + 1 + 1)) <;> simp
    omega
  · rw [drop_past s (k + 1) (by omega), drop_past s (k + 2) (by omega)]
    simp [qf]

/-- The run of backslashes that ends just before place j, not reaching down to i. -/
def bs (s : ByteArray) (i : Nat) : Nat → Nat
  | 0 => 0
  | j + 1 => if i < j ∧ s.data.toList.getD j 0 = 92 then bs s i j + 1 else 0

def endM (s : ByteArray) (i k : Nat) : Nat := match cm (bs s i k) (s.data.toList.drop k) with
  | some n => k + n
  | none => s.size
def okM (s : ByteArray) (i k : Nat) : Bool := (cm (bs s i k) (s.data.toList.drop k)).isSome

theorem bs_le (s : ByteArray) (i : Nat) : ∀ j, bs s i j ≤ j
  | 0 => Nat.le_refl _
  | j + 1 => by unfold bs; have := bs_le s i j; split <;> omega

theorem getD_at (s : ByteArray) (k : Nat) (h : k < s.size) : s.data.toList.getD k 0 = s[k] := by
  rw [List.getD_eq_getElem?_getD, List.getElem?_eq_getElem (by simpa using h)]; rfl

theorem bs_start (s : ByteArray) (i : Nat) : bs s i (i + 1) = 0 := by unfold bs; simp

theorem bs_yes (s : ByteArray) (i k : Nat) (h : k < s.size) (hi : i < k) (h92 : s[k] = 92) : bs s i (k + 1) = bs s i k + 1 := by
  show (if i < k ∧ s.data.toList.getD k 0 = 92 then bs s i k + 1 else 0) = _
  rw [getD_at s k h, if_pos ⟨hi, h92⟩]

theorem bs_no (s : ByteArray) (i k : Nat) (h : k < s.size) (h92 : s[k] ≠ 92) : bs s i (k + 1) = 0 := by
  show (if i < k ∧ s.data.toList.getD k 0 = 92 then bs s i k + 1 else 0) = _
  rw [getD_at s k h, if_neg (fun h => h92 h.2)]

theorem bs_low (s : ByteArray) (i k : Nat) (hi : k ≤ i) : bs s i (k + 1) = 0 := by
  show (if i < k ∧ s.data.toList.getD k 0 = 92 then bs s i k + 1 else 0) = _
  rw [if_neg (by omega)]

theorem m_past (s : ByteArray) (i k : Nat) (h : s.size ≤ k) : endM s i k = s.size ∧ okM s i k = false := by
  simp [endM, okM, drop_past s k h, cm]

theorem m_step (s : ByteArray) (i k : Nat) (h : k < s.size) (hi : i < k) (h34 : s[k] ≠ 34) : endM s i k = endM s i (k + 1) ∧ okM s i k = okM s i (k + 1) := by
  unfold endM okM
  rw [drop_at s k h]
  simp only [cm, if_neg h34]
  by_cases h92 : s[k] = 92
  · rw [if_pos h92, bs_yes s i k h hi h92]
    cases cm (bs s i k + 1) (s.data.toList.drop (k + 1)) <;> simp
    omega
  · rw [if_neg h92, bs_no s i k h h92]
    cases cm 0 (s.data.toList.drop (k + 1)) <;> simp
    omega

theorem m_odd (s : ByteArray) (i k : Nat) (h : k < s.size) (h34 : s[k] = 34) (ho : bs s i k % 2 ≠ 0) : endM s i k = endM s i (k + 1) ∧ okM s i k = okM s i (k + 1) := by
  unfold endM okM
  rw [drop_at s k h]
  simp only [cm, if_pos h34, if_neg ho]
  rw [bs_no s i k h (by rw [h34]; decide)]
  cases cm 0 (s.data.toList.drop (k + 1)) <;> simp
  omega

theorem m_even (s : ByteArray) (i k : Nat) (h : k < s.size) (h34 : s[k] = 34) (ho : bs s i k % 2 = 0) : endM s i k = k + 1 ∧ okM s i k = true := by
  unfold endM okM
  rw [drop_at s k h]
  simp [cm, h34, ho]

/-- The model and the scanner agree. -/
theorem m_at (s : ByteArray) (i : Nat) : endM s i (i + 1) = endAt s (i + 1) ∧ okM s i (i + 1) = okAt s (i + 1) := by
  unfold endM okM endAt okAt
  rw [bs_start, cm_qf]
  exact ⟨rfl, rfl⟩

theorem append_list (a b : ByteArray) : (a ++ b).data.toList = a.data.toList ++ b.data.toList := by
  simp [ByteArray.data_append]

/-- A prefix shifts the answer. -/
theorem at_shift (p s : ByteArray) (k : Nat) : endAt (p ++ s) (k + p.size) = endAt s k + p.size ∧ okAt (p ++ s) (k + p.size) = okAt s k := by
  unfold endAt okAt
  have e : (p ++ s).data.toList.drop (k + p.size) = s.data.toList.drop k := by
    rw [append_list, List.drop_append]
    have h1 : p.data.toList.length = p.size := by simp
    rw [List.drop_eq_nil_of_le (by omega), h1]
    simp
  rw [e]
  have hs : (p ++ s).size = p.size + s.size := by simp [ByteArray.size_append]
  cases qf false (s.data.toList.drop k) with
  | none => simp [hs]; omega
  | some n => simp; omega

/-- What follows. -/
theorem drop_app (s t : ByteArray) (k : Nat) (hk : k ≤ s.size) : (s ++ t).data.toList.drop k = s.data.toList.drop k ++ t.data.toList := by
  rw [append_list, List.drop_append_of_le_length (by simpa using hk)]

theorem follow_ok (s t : ByteArray) (k : Nat) (hk : k ≤ s.size) (h : okAt s k = true) : endAt (s ++ t) k = endAt s k ∧ okAt (s ++ t) k = true := by
  unfold okAt at h ⊢
  unfold endAt
  rw [drop_app s t k hk]
  obtain ⟨n, hn⟩ := Option.isSome_iff_exists.1 h
  rw [qf_append_some _ _ _ _ hn, hn]
  simp

theorem follow_no (s t : ByteArray) (k : Nat) (hk : k ≤ s.size) (h : okAt s k = false) (h' : okAt (s ++ t) k = true) : s.size < endAt (s ++ t) k := by
  unfold okAt at h h'
  unfold endAt
  rw [drop_app s t k hk] at h' ⊢
  obtain ⟨n, hn⟩ := Option.isSome_iff_exists.1 h'
  rw [hn]
  have := qf_append_none _ _ _ _ (by simpa using h) hn
  simp at this ⊢
  omega

theorem follow_none (s t : ByteArray) (k : Nat) (h' : okAt (s ++ t) k = false) : endAt (s ++ t) k = s.size + t.size := by
  unfold okAt at h'
  unfold endAt
  have : qf false ((s ++ t).data.toList.drop k) = none := by simpa using h'
  rw [this]
  simp [ByteArray.size_append]

theorem end_le (s : ByteArray) (k : Nat) (hk : k ≤ s.size) : endAt s k ≤ s.size := by
  unfold endAt
  split
  · rename_i n hn
    have := qf_le _ _ _ hn
    simp at this; omega
  · exact Nat.le_refl _

end Go.Proofs.Qxb6618103a.Qe
