namespace Go.Proofs.Qxb6618103a.Idn

def letterB (c : UInt8) : Bool := decide (97 ≤ c.toNat ∧ c.toNat ≤ 122) || decide (65 ≤ c.toNat ∧ c.toNat ≤ 90)
def headB (c : UInt8) : Bool := letterB c || decide (c.toNat = 95)
def tailB (c : UInt8) : Bool := headB c || decide (c.toNat = 46) || decide (48 ≤ c.toNat ∧ c.toNat ≤ 57)
/-- Every byte may stand where it stands. -/
def preB : List UInt8 → Bool
  | [] => true
  | c :: l => headB c && l.all tailB
def idB (l : List UInt8) : Bool := preB l && !l.isEmpty

theorem preB_take_succ (l : List UInt8) (k : Nat) (h : k < l.length) : preB (l.take (k + 1)) = (preB (l.take k) && (if k = 0 then headB l[k] else tailB l[k])) := by
  cases l with
  | nil => simp at h
  | cons c l =>
    cases k with
    | zero => simp [preB]
    | succ k =>
      have h' : k < l.length := by simpa using h
      simp only [List.take_succ_cons, preB]
      rw [List.take_succ_eq_append_getElem h', List.all_append]
      simp only [Bool.and_assoc, List.all_cons, List.all_nil, Bool.and_true, List.getElem_cons_succ, Nat.add_eq_zero_iff, Nat.succ_ne_self, and_false, if_false]

theorem preB_false (l : List UInt8) (k : Nat) (h : preB (l.take k) = false) : preB l = false := by
  cases l with
  | nil => simpa using h
  | cons c l =>
    cases k with
    | zero => simp [preB] at h
    | succ k =>
      simp only [List.take_succ_cons, preB, Bool.and_eq_false_iff] at h ⊢
      rcases h with h | h
      · exact .inl h
      · right
        rw [List.all_eq_false] at h ⊢
        obtain ⟨x, hx, hb⟩ := h
        exact ⟨x, List.mem_of_mem_take hx, hb⟩

/-- The law. -/
theorem id_append (a b : List UInt8) : idB (a ++ b) = if a.isEmpty then idB b else idB a && idB (95 :: b) := by
  cases a with
  | nil => simp
  | cons c a =>
    have : headB 95 = true := by decide
    simp [idB, preB, this, Bool.and_assoc]

theorem id_tail (b : List UInt8) : idB (95 :: b) = b.all tailB := by
  have : headB 95 = true := by decide
  simp [idB, preB, this]

/-- identifierModel. -/
def modelB : List UInt8 → Bool
  | [] => false
  | c :: l => if headB c then l.all tailB else false
theorem model_id (l : List UInt8) : modelB l = idB l := by
  cases l with
  | nil => rfl
  | cons c l => cases h : headB c <;> simp [modelB, idB, preB, h]

end Go.Proofs.Qxb6618103a.Idn
