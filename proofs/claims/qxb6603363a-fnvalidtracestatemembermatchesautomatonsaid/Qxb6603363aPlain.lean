import Derived.Lib.IndexMore
namespace Go.Proofs.Qxb6603363a
namespace Plain

/-- a lower case letter or a digit -/
def alnum (c : UInt8) : Bool := decide (97 ≤ c.toNat ∧ c.toNat ≤ 122) || decide (48 ≤ c.toNat ∧ c.toNat ≤ 57)
def punct (c : UInt8) : Bool := c == 95 || c == 45 || c == 42 || c == 47 || c == 64
def keyb (c : UInt8) : Bool := alnum c || punct c
def valb (c : UInt8) : Bool := decide (32 ≤ c.toNat ∧ c.toNat ≤ 126) && c != 61

/-- the automaton from state 2, 1, 0 -/
def au2 (kl : Nat) (vl : Nat) : List UInt8 → Bool
  | [] => decide (kl ≤ 256 ∧ 1 ≤ vl ∧ vl ≤ 256)
  | c :: r => if valb c = true then au2 kl (vl + 1) r else false
def au1 (kl : Nat) : List UInt8 → Bool
  | [] => false
  | c :: r => if c == 61 then au2 kl 0 r else if keyb c = true then au1 (kl + 1) r else false
def au0 : List UInt8 → Bool
  | [] => false
  | c :: r => if alnum c = true then au1 1 r else false

/-- what 'validTracestateMember' asks of the two pieces -/
def ok (key value : List UInt8) : Bool :=
  match key with
  | [] => false
  | c :: r => decide ((c :: r).length ≤ 256) && decide (1 ≤ value.length ∧ value.length ≤ 256) && alnum c && r.all keyb && value.all valb

theorem au2_eq (kl : Nat) (l : List UInt8) : ∀ vl, au2 kl vl l = (decide (kl ≤ 256) && decide (1 ≤ vl + l.length ∧ vl + l.length ≤ 256) && l.all valb) := by
  induction l with
  | nil => intro vl; simp [au2]
  | cons c r ih =>
    intro vl
    unfold au2
    by_cases h : valb c = true
    · rw [if_pos h, ih]
      have e : vl + (c :: r).length = vl + 1 + r.length := by simp; omega
      rw [e]
      simp [h]
    · rw [if_neg h]
      simp at h
      simp [h]

theorem index_eq61 (l : List UInt8) : (61 ∉ l ∧ Lib.cut l [61] = (l, [], false)) ∨ (∃ a b, l = a ++ 61 :: b ∧ 61 ∉ a ∧ Lib.cut l [61] = (a, b, true)) := by
  unfold Lib.cut
  rcases Lib.index_spec l [61] with ⟨h1, h2⟩ | ⟨i, h1, h2, h3, h4⟩
  · left
    constructor
    · intro hm
      obtain ⟨a, b, rfl⟩ := List.append_of_mem hm
      have := h2 a.length (by simp)
      simp [Lib.occAt] at this
    · rw [h1]; rfl
  · right
    refine ⟨l.take i, l.drop (i + 1), ?_, ?_, ?_⟩
    · unfold Lib.occAt at h3
      obtain ⟨r, hr⟩ := List.isPrefixOf_iff_prefix.1 h3
      have h5 : l.drop (i + 1) = r := by rw [← List.drop_drop, ← hr]; rfl
      rw [h5]
      have h6 : 61 :: r = l.drop i := by rw [← hr]; rfl
      rw [h6, List.take_append_drop]
    · intro hm
      obtain ⟨a, b, hab⟩ := List.append_of_mem hm
      have hl : a.length < i := by
        have := congrArg List.length hab
        simp at this
        omega
      have := h4 a.length hl
      unfold Lib.occAt at this
      have e : l = a ++ 61 :: (b ++ l.drop i) := by
        rw [← List.cons_append, ← List.append_assoc, ← hab, List.take_append_drop]
      rw [e] at this
      simp at this
    · rw [h1, if_pos (by omega)]
      simp

theorem au1_no (l : List UInt8) (h : 61 ∉ l) : ∀ kl, au1 kl l = false := by
  induction l with
  | nil => intro kl; rfl
  | cons c r ih =>
    intro kl
    simp only [List.mem_cons, not_or] at h
    unfold au1
    have hc : (c == 61) = false := by rw [beq_eq_false_iff_ne]; exact fun e => h.1 e.symm
    rw [hc]
    split
    · rename_i h; cases h
    · split
      · exact ih h.2 _
      · rfl

theorem au1_yes (a b : List UInt8) (h : 61 ∉ a) : ∀ kl, au1 kl (a ++ 61 :: b) = (a.all keyb && au2 (kl + a.length) 0 b) := by
  induction a with
  | nil => intro kl; simp [au1]
  | cons c r ih =>
    intro kl
    simp only [List.mem_cons, not_or] at h
    rw [List.cons_append]
    unfold au1
    have hc : (c == 61) = false := by rw [beq_eq_false_iff_ne]; exact fun e => h.1 e.symm
    rw [hc]
    by_cases hk : keyb c = true
    · rw [if_neg (by decide), if_pos hk, ih h.2]
      simp only [List.all_cons, hk, Bool.true_and, List.length_cons]
      congr 2
      omega
    · rw [if_neg (by decide), if_neg hk]
      simp at hk
      simp [hk]

theorem agree (l : List UInt8) : ok (Lib.cut l [61]).1 (Lib.cut l [61]).2.1 = au0 l := by
  rcases index_eq61 l with ⟨h, e⟩ | ⟨a, b, rfl, h, e⟩
  · rw [e]
    cases l with
    | nil => rfl
    | cons c r =>
      simp only [List.mem_cons, not_or] at h
      simp only [au0, au1_no r h.2, ok]
      simp
  · rw [e]
    cases a with
    | nil => simp [au0, ok, alnum]
    | cons c r =>
      simp only [List.mem_cons, not_or] at h
      simp only [List.cons_append, au0, ok]
      rw [au1_yes r b h.2, au2_eq]
      by_cases hc : alnum c = true
      · rw [if_pos hc, hc]
        have e1 : 1 + r.length = (c :: r).length := by simp; omega
        rw [e1, Nat.zero_add]
        generalize decide ((c :: r).length ≤ 256) = p1
        generalize decide (1 ≤ b.length ∧ b.length ≤ 256) = p2
        generalize r.all keyb = p3
        generalize b.all valb = p4
        revert p1 p2 p3 p4; decide
      · rw [if_neg hc]
        simp at hc
        simp [hc]
end Plain
end Go.Proofs.Qxb6603363a
