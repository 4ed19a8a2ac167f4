import Derived.Lib.IndexMore
namespace Go.Proofs.Qxb6603768a
namespace Plain

/-- every star of the text replaced -/
def subst (fill : List UInt8) : List UInt8 → List UInt8
  | [] => []
  | c :: r => if c == 42 then fill ++ subst fill r else c :: subst fill r

def stars : List UInt8 → Nat
  | [] => 0
  | c :: r => if c == 42 then stars r + 1 else stars r

theorem subst_append (fill a b : List UInt8) : subst fill (a ++ b) = subst fill a ++ subst fill b := by
  induction a with
  | nil => rfl
  | cons c r ih =>
    rw [List.cons_append, subst, subst, ih]
    split <;> simp

theorem subst_none (fill a : List UInt8) (h : 42 ∉ a) : subst fill a = a := by
  induction a with
  | nil => rfl
  | cons c r ih =>
    simp only [List.mem_cons, not_or] at h
    have hc : (c == 42) = false := by rw [beq_eq_false_iff_ne]; exact fun e => h.1 e.symm
    rw [subst, hc, ih h.2]
    rfl

theorem subst_star (fill r : List UInt8) : subst fill (42 :: r) = fill ++ subst fill r := by
  rw [subst]; rfl

theorem stars_append (a b : List UInt8) : stars (a ++ b) = stars a + stars b := by
  induction a with
  | nil => simp [stars]
  | cons c r ih =>
    rw [List.cons_append, stars, stars, ih]
    split <;> omega

theorem stars_le (a : List UInt8) : stars a ≤ a.length := by
  induction a with
  | nil => simp [stars]
  | cons c r ih =>
    rw [stars, List.length_cons]
    split <;> omega

theorem stars_zero (a : List UInt8) : stars a = 0 ↔ 42 ∉ a := by
  induction a with
  | nil => simp [stars]
  | cons c r ih =>
    rw [stars]
    by_cases h : c = 42
    · subst h; simp
    · have hc : (c == 42) = false := by simp [h]
      rw [hc]
      simp only [List.mem_cons, not_or]
      constructor
      · intro h1; exact ⟨fun e => h e.symm, ih.1 h1⟩
      · rintro ⟨_, h1⟩; exact ih.2 h1

theorem subst_length (fill a : List UInt8) : (subst fill a).length + stars a = a.length + stars a * fill.length := by
  induction a with
  | nil => simp [subst, stars]
  | cons c r ih =>
    rw [subst, stars]
    by_cases h : (c == 42) = true
    · rw [if_pos h, if_pos h, List.length_append, List.length_cons, Nat.add_mul]; omega
    · rw [if_neg h, if_neg h, List.length_cons, List.length_cons]; omega

theorem cut_star (l : List UInt8) : (42 ∉ l ∧ Lib.cut l [42] = (l, [], false)) ∨ (∃ a b, l = a ++ 42 :: b ∧ 42 ∉ a ∧ Lib.cut l [42] = (a, b, true)) := by
  unfold Lib.cut
  rcases Lib.index_spec l [42] with ⟨h1, h2⟩ | ⟨i, h1, h2, h3, h4⟩
  · left
    constructor
    · intro hm
      obtain ⟨a, b, rfl⟩ := List.append_of_mem hm
      have := h2 a.length (by simp)
      simp [Lib.occAt] at this
    · rw [h1]; rfl
  · right
    refine ⟨l.take i, l.drop (i + 1), ?_, ?_, ?_⟩
    · unfold Lib.occAt at h3
      obtain ⟨r, hr⟩ := List.isPrefixOf_iff_prefix.1 h3
      have h5 : l.drop (i + 1) = r := by rw [← List.drop_drop, ← hr]; rfl
      rw [h5]
      have h6 : 42 :: r = l.drop i := by rw [← hr]; rfl
      rw [h6, List.take_append_drop]
    · intro hm
      obtain ⟨a, b, hab⟩ := List.append_of_mem hm
      have hl : a.length < i := by
        have := congrArg List.length hab
        simp at this
        omega
      have := h4 a.length hl
      unfold Lib.occAt at this
      have e : l = a ++ 42 :: (b ++ l.drop i) := by
        rw [← List.cons_append, ← List.append_assoc, ← hab, List.take_append_drop]
      rw [e] at this
      simp at this
    · rw [h1, if_pos (by omega)]
      simp

/-- what is left of the name holds the filling of what is left of the pattern at its end -/
def Inv (fill s rest : List UInt8) : Prop := ∃ pre, s = pre ++ (fill ++ subst fill rest)

theorem inv_start (fill head rest : List UInt8) (h : 42 ∉ head) :
    Lib.hasPrefix (subst fill (head ++ 42 :: rest)) head = true ∧ Inv fill ((subst fill (head ++ 42 :: rest)).drop head.length) rest := by
  rw [subst_append, subst_none fill head h, subst_star]
  constructor
  · unfold Lib.hasPrefix
    rw [List.isPrefixOf_iff_prefix]
    exact List.prefix_append _ _
  · rw [List.drop_left]
    exact ⟨[], rfl⟩

theorem inv_end (fill s rest : List UInt8) (h : 42 ∉ rest) (hi : Inv fill s rest) : Lib.hasSuffix s rest = true := by
  obtain ⟨pre, rfl⟩ := hi
  rw [subst_none fill rest h]
  unfold Lib.hasSuffix
  rw [List.isSuffixOf_iff_suffix, ← List.append_assoc]
  exact List.suffix_append _ _

theorem inv_step (fill s piece more : List UInt8) (h : 42 ∉ piece) (hi : Inv fill s (piece ++ 42 :: more)) :
    ∃ i : Nat, Lib.index s piece = i ∧ i + piece.length ≤ s.length ∧ Inv fill (s.drop (i + piece.length)) more := by
  obtain ⟨pre, e⟩ := hi
  rw [subst_append, subst_none fill piece h, subst_star] at e
  have e2 : s = (pre ++ fill) ++ (piece ++ (fill ++ subst fill more)) := by rw [e]; simp
  have hocc : Lib.occAt s piece (pre ++ fill).length = true := by
    unfold Lib.occAt
    rw [e2, List.drop_left, List.isPrefixOf_iff_prefix]
    exact List.prefix_append _ _
  rcases Lib.index_spec s piece with ⟨h1, h2⟩ | ⟨i, h1, h2, h3, h4⟩
  · exfalso
    have := h2 (pre ++ fill).length (by rw [e2]; simp)
    rw [hocc] at this
    cases this
  · have hle : i ≤ (pre ++ fill).length := by
      rcases Nat.lt_or_ge (pre ++ fill).length i with hlt | hge
      · have := h4 _ hlt
        rw [hocc] at this
        cases this
      · exact hge
    have e3 : s = ((pre ++ fill) ++ piece) ++ (fill ++ subst fill more) := by rw [e2]; simp
    have hl : i + piece.length ≤ ((pre ++ fill) ++ piece).length := by rw [List.length_append]; omega
    refine ⟨i, h1, ?_, ?_⟩
    · have := congrArg List.length e3
      rw [List.length_append] at this
      omega
    · refine ⟨((pre ++ fill) ++ piece).drop (i + piece.length), ?_⟩
      rw [e3, List.drop_append_of_le_length hl]
end Plain
end Go.Proofs.Qxb6603768a
