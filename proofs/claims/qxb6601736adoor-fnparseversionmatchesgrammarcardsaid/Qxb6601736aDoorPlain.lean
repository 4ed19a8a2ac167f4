import Derived.Lib.IndexMore
import Derived.Lib.ParseIntB
namespace Go.Proofs.Qxb6601736aDoor
namespace Plain

def dig (c : UInt8) : Bool := decide (48 ≤ c.toNat ∧ c.toNat ≤ 57)
def nxt (a : Nat) (c : UInt8) : Nat := a * 10 + (c.toNat - 48)
def val (a : Nat) (l : List UInt8) : Nat := l.foldl nxt a
def beta : List UInt8 := [98, 101, 116, 97]
def alpha : List UInt8 := [97, 108, 112, 104, 97]

def mx : Nat := 18446744073709551615
theorem mx_eq : mx = 18446744073709551615 := rfl

def num (l : List UInt8) : Option Nat := match Lib.parseUintB 64 l with | .ok u => some u | _ => none

def Num (l : List UInt8) (u : Nat) : Prop := l ≠ [] ∧ l.all dig = true ∧ val 0 l ≤ mx ∧ u = val 0 l

theorem val_nil (a : Nat) : val a [] = a := rfl
theorem val_cons (a : Nat) (c : UInt8) (r : List UInt8) : val a (c :: r) = val (nxt a c) r := List.foldl_cons ..

theorem val_ge (l : List UInt8) : ∀ a, a ≤ val a l := by
  induction l with
  | nil => intro a; exact Nat.le_refl _
  | cons c r ih => intro a; rw [val_cons]; have := ih (nxt a c); unfold nxt at this ⊢; omega

theorem parseM_ok (l : List UInt8) : ∀ acc u, acc ≤ 18446744073709551615 →
    (Lib.parseUintM 18446744073709551615 acc l = .ok u ↔ (l.all dig = true ∧ val acc l ≤ 18446744073709551615 ∧ u = val acc l)) := by
  induction l with
  | nil =>
    intro acc u h
    rw [val_nil, Lib.parseUintM]
    simp only [List.all_nil, Lib.NumEnd.ok.injEq, true_and]
    constructor
    · rintro rfl; exact ⟨h, rfl⟩
    · rintro ⟨_, h2⟩; exact h2.symm
  | cons c r ih =>
    intro acc u h
    rw [val_cons, Lib.parseUintM]
    have hv := val_ge r (nxt acc c)
    have en : nxt acc c = acc * 10 + (c.toNat - 48) := rfl
    rw [← en]
    by_cases hd : 48 ≤ c.toNat ∧ c.toNat ≤ 57
    · rw [if_pos hd]
      have hdc : dig c = true := by simp [dig, hd]
      by_cases h1 : 1844674407370955162 ≤ acc
      · rw [if_pos h1]
        constructor
        · intro h; cases h
        · rintro ⟨_, h2, _⟩; omega
      · rw [if_neg h1]
        by_cases h2 : 18446744073709551615 < nxt acc c
        · rw [if_pos h2]
          constructor
          · intro h; cases h
          · rintro ⟨_, h2, _⟩; omega
        · rw [if_neg h2, ih _ _ (by omega)]
          simp [hdc]
    · rw [if_neg hd]
      have hdc : dig c = false := by simp only [dig, decide_eq_false_iff_not]; exact hd
      constructor
      · intro h; cases h
      · rintro ⟨h1, _⟩; simp [hdc] at h1

theorem num_iff (l : List UInt8) (u : Nat) : num l = some u ↔ Num l u := by
  unfold num Num Lib.parseUintB
  rw [mx_eq]
  by_cases hl : l = []
  · simp [hl]
  · rw [if_neg hl]
    have h := parseM_ok l 0 u (by omega)
    have e : (2 ^ 64 - 1 : Nat) = 18446744073709551615 := by decide
    rw [e]
    constructor
    · intro h1
      refine ⟨hl, h.1 ?_⟩
      split at h1
      · rename_i v hv; rw [hv]; simp at h1; rw [h1]
      · cases h1
    · rintro ⟨_, h1⟩
      rw [h.2 h1]

def rdl (n : Nat) : List UInt8 → Option (Nat × List UInt8)
  | [] => some (n, [])
  | c :: r => if dig c = true then (if (mx - (c.toNat - 48)) / 10 < n then none else rdl (nxt n c) r) else some (n, c :: r)

theorem rdl_spec (l : List UInt8) : ∀ a, a ≤ mx →
    rdl a l = if val a (l.takeWhile dig) ≤ mx then some (val a (l.takeWhile dig), l.dropWhile dig) else none := by
  have hm : 9 ≤ mx := by rw [mx_eq]; omega
  induction l with
  | nil => intro a h; rw [List.takeWhile_nil, List.dropWhile_nil, val_nil, if_pos h, rdl]
  | cons c r ih =>
    intro a h
    unfold rdl
    by_cases hd : dig c = true
    · have hdc := hd
      simp only [dig, decide_eq_true_eq] at hdc
      rw [if_pos hd, List.takeWhile_cons_of_pos hd, List.dropWhile_cons_of_pos hd]
      have ev : val a (c :: r.takeWhile dig) = val (nxt a c) (r.takeWhile dig) := val_cons _ _ _
      rw [ev]
      have hv := val_ge (r.takeWhile dig) (nxt a c)
      have en : nxt a c = a * 10 + (c.toNat - 48) := rfl
      by_cases h1 : (mx - (c.toNat - 48)) / 10 < a
      · rw [if_pos h1, if_neg (by omega)]
      · rw [if_neg h1, ih _ (by omega)]
    · rw [if_neg hd, List.takeWhile_cons_of_neg hd, List.dropWhile_cons_of_neg hd, val_nil, if_pos h]

def fin (s M : Nat) (t : List UInt8) : Option (Nat × Nat × Nat) :=
  match rdl 0 t with
  | none => none
  | some (m, u) => if t.length ≤ u.length ∨ u ≠ [] then none else some (s, M, m)

def mdr (rest : List UInt8) : Option (Nat × Nat × Nat) :=
  match rdl 0 rest with
  | none => none
  | some (M, t) =>
    if rest.length ≤ t.length then none
    else if t = [] then some (0, M, 0)
    else if beta.isPrefixOf t = true then fin 1 M (t.drop 4)
    else if alpha.isPrefixOf t = true then fin 2 M (t.drop 5)
    else none

def two (s : Nat) (c : List UInt8 × List UInt8 × Bool) : Option (Nat × Nat × Nat) :=
  match num c.2.1 with
  | none => none
  | some m => match num c.1 with | none => none | some M => some (s, M, m)

def pvr (rest : List UInt8) : Option (Nat × Nat × Nat) :=
  if (Lib.cut rest beta).2.2 = true then two 1 (Lib.cut rest beta)
  else if (Lib.cut rest alpha).2.2 = true then two 2 (Lib.cut rest alpha)
  else match num rest with | none => none | some M => some (0, M, 0)

def G (rest : List UInt8) (x : Nat × Nat × Nat) : Prop :=
  (∃ M, x = (0, M, 0) ∧ Num rest M) ∨ (∃ D E M m, rest = D ++ beta ++ E ∧ Num D M ∧ Num E m ∧ x = (1, M, m)) ∨ (∃ D E M m, rest = D ++ alpha ++ E ∧ Num D M ∧ Num E m ∧ x = (2, M, m))

theorem split_dig (D t : List UInt8) (hD : D.all dig = true) (ht : t = [] ∨ ∃ c r, t = c :: r ∧ dig c = false) :
    (D ++ t).takeWhile dig = D ∧ (D ++ t).dropWhile dig = t := by
  induction D with
  | nil =>
    rcases ht with rfl | ⟨c, r, rfl, hc⟩
    · simp
    · simp [hc]
  | cons a D ih =>
    simp only [List.all_cons, Bool.and_eq_true] at hD
    obtain ⟨h1, h2⟩ := ih hD.2
    simp [hD.1, h1, h2]

theorem all_dropWhile (l : List UInt8) : l.dropWhile dig = [] ∨ ∃ c r, l.dropWhile dig = c :: r ∧ dig c = false := by
  induction l with
  | nil => simp
  | cons a l ih =>
    by_cases h : dig a = true
    · rw [List.dropWhile_cons_of_pos h]; exact ih
    · right; exact ⟨a, l, by rw [List.dropWhile_cons_of_neg h], by simpa using h⟩

theorem all_takeWhile (l : List UInt8) : (l.takeWhile dig).all dig = true := by
  induction l with
  | nil => rfl
  | cons a l ih =>
    by_cases h : dig a = true
    · rw [List.takeWhile_cons_of_pos h]; simp only [List.all_cons, h, ih]; rfl
    · rw [List.takeWhile_cons_of_neg h]; rfl

theorem split_eq (l : List UInt8) : l.takeWhile dig ++ l.dropWhile dig = l := List.takeWhile_append_dropWhile

/-- the reader: it reads a number and what is left -/
theorem rdl_some (l : List UInt8) (n : Nat) (t : List UInt8) :
    (rdl 0 l = some (n, t) ∧ ¬ l.length ≤ t.length) ↔ (∃ D, l = D ++ t ∧ Num D n ∧ (t = [] ∨ ∃ c r, t = c :: r ∧ dig c = false)) := by
  rw [rdl_spec l 0 (Nat.zero_le _)]
  constructor
  · rintro ⟨h1, h2⟩
    split at h1
    · rename_i hle
      simp only [Option.some.injEq, Prod.mk.injEq] at h1
      obtain ⟨rfl, rfl⟩ := h1
      have he := split_eq l
      refine ⟨l.takeWhile dig, he.symm, ⟨?_, all_takeWhile l, hle, rfl⟩, all_dropWhile l⟩
      intro h0
      rw [h0] at he
      simp only [List.nil_append] at he
      rw [he] at h2
      omega
    · cases h1
  · rintro ⟨D, rfl, ⟨hne, hall, hle, rfl⟩, ht⟩
    obtain ⟨e1, e2⟩ := split_dig D t hall ht
    rw [e1, e2, if_pos hle]
    refine ⟨rfl, ?_⟩
    have : D.length ≠ 0 := by simpa using hne
    simp only [List.length_append]; omega

theorem fin_iff (s M : Nat) (t : List UInt8) (x : Nat × Nat × Nat) : fin s M t = some x ↔ ∃ m, Num t m ∧ x = (s, M, m) := by
  unfold fin
  constructor
  · intro h
    split at h
    · cases h
    · rename_i m u hr
      split at h
      · cases h
      · rename_i hn
        simp only [not_or, ne_eq, Classical.not_not] at hn
        obtain ⟨D, h1, h2, _⟩ := (rdl_some t m u).1 ⟨hr, hn.1⟩
        rw [hn.2, List.append_nil] at h1
        subst h1
        simp only [Option.some.injEq] at h
        exact ⟨m, h2, h.symm⟩
  · rintro ⟨m, hm, rfl⟩
    obtain ⟨h1, h2⟩ := (rdl_some t m []).2 ⟨t, by simp, hm, Or.inl rfl⟩
    rw [h1]
    show (if t.length ≤ ([] : List UInt8).length ∨ ([] : List UInt8) ≠ [] then none else some (s, M, m)) = _
    rw [if_neg (by simp only [not_or]; exact ⟨h2, by simp⟩)]

theorem prefix_cut (p t : List UInt8) (h : p.isPrefixOf t = true) : t = p ++ t.drop p.length := by
  obtain ⟨r, rfl⟩ := List.isPrefixOf_iff_prefix.1 h
  simp

theorem mdr_iff (rest : List UInt8) (x : Nat × Nat × Nat) : mdr rest = some x ↔ G rest x := by
  constructor
  · intro h
    unfold mdr at h
    split at h
    · cases h
    · rename_i M t hr
      by_cases h1 : rest.length ≤ t.length
      · rw [if_pos h1] at h; cases h
      · rw [if_neg h1] at h
        obtain ⟨D, e, hD, ht⟩ := (rdl_some rest M t).1 ⟨hr, h1⟩
        by_cases h2 : t = []
        · rw [if_pos h2] at h
          subst h2
          rw [List.append_nil] at e
          subst e
          simp only [Option.some.injEq] at h
          exact Or.inl ⟨M, h.symm, hD⟩
        · rw [if_neg h2] at h
          by_cases h3 : beta.isPrefixOf t = true
          · rw [if_pos h3] at h
            obtain ⟨m, hm, hx⟩ := (fin_iff _ _ _ _).1 h
            have e3 := prefix_cut _ _ h3
            exact Or.inr (Or.inl ⟨D, t.drop 4, M, m, by rw [e, List.append_assoc]; exact congrArg _ e3, hD, hm, hx⟩)
          · rw [if_neg h3] at h
            by_cases h4 : alpha.isPrefixOf t = true
            · rw [if_pos h4] at h
              obtain ⟨m, hm, hx⟩ := (fin_iff _ _ _ _).1 h
              have e3 := prefix_cut _ _ h4
              exact Or.inr (Or.inr ⟨D, t.drop 5, M, m, by rw [e, List.append_assoc]; exact congrArg _ e3, hD, hm, hx⟩)
            · rw [if_neg h4] at h; cases h
  · rintro (⟨M, rfl, hM⟩ | ⟨D, E, M, m, rfl, hM, hm, rfl⟩ | ⟨D, E, M, m, rfl, hM, hm, rfl⟩)
    · obtain ⟨h1, h2⟩ := (rdl_some rest M []).2 ⟨rest, by simp, hM, Or.inl rfl⟩
      unfold mdr
      rw [h1]
      simp only []
      rw [if_neg h2, if_pos trivial]
    · obtain ⟨h1, h2⟩ := (rdl_some (D ++ beta ++ E) M (beta ++ E)).2 ⟨D, by simp, hM, Or.inr ⟨98, [101, 116, 97] ++ E, rfl, by decide⟩⟩
      unfold mdr
      rw [h1]
      simp only []
      rw [if_neg h2, if_neg (by simp [beta]), if_pos (by rw [List.isPrefixOf_iff_prefix]; exact List.prefix_append _ _)]
      exact (fin_iff _ _ _ _).2 ⟨m, by simpa [beta] using hm, rfl⟩
    · obtain ⟨h1, h2⟩ := (rdl_some (D ++ alpha ++ E) M (alpha ++ E)).2 ⟨D, by simp, hM, Or.inr ⟨97, [108, 112, 104, 97] ++ E, rfl, by decide⟩⟩
      unfold mdr
      rw [h1]
      simp only []
      rw [if_neg h2, if_neg (by simp [alpha]), if_neg (by simp [alpha, beta]), if_pos (by rw [List.isPrefixOf_iff_prefix]; exact List.prefix_append _ _)]
      exact (fin_iff _ _ _ _).2 ⟨m, by simpa [alpha] using hm, rfl⟩

/-- a word that begins with a byte that is no digit is first found behind the digits -/
theorem cut_behind (D E : List UInt8) (c : UInt8) (p : List UInt8) (hD : D.all dig = true) (hc : dig c = false) :
    Lib.cut (D ++ (c :: p) ++ E) (c :: p) = (D, E, true) := by
  have hi : Lib.index (D ++ (c :: p) ++ E) (c :: p) = (D.length : Int) := by
    refine Lib.index_first (by simp) ?_ ?_
    · unfold Lib.occAt
      rw [List.isPrefixOf_iff_prefix, List.append_assoc, List.drop_left]
      exact List.prefix_append _ _
    · intro j hj
      by_cases h : Lib.occAt (D ++ (c :: p) ++ E) (c :: p) j = true
      · exfalso
        unfold Lib.occAt at h
        obtain ⟨r, hr⟩ := List.isPrefixOf_iff_prefix.1 h
        have h0 : (List.drop j (D ++ (c :: p) ++ E))[0]? = some c := by rw [← hr]; rfl
        rw [List.getElem?_drop, List.append_assoc, List.getElem?_append_left (by omega)] at h0
        have hm : c ∈ D := List.mem_of_getElem? h0
        have := List.all_eq_true.1 hD c hm
        rw [hc] at this
        cases this
      · simpa using h
  unfold Lib.cut
  rw [hi, if_pos (by omega)]
  simp

/-- nothing is found where the first byte is missing -/
theorem cut_not (l : List UInt8) (c : UInt8) (p : List UInt8) (h : c ∉ l) : (Lib.cut l (c :: p)).2.2 = false := by
  have hi : Lib.index l (c :: p) = -1 := by
    refine Lib.index_none ?_
    intro j _
    by_cases h1 : Lib.occAt l (c :: p) j = true
    · exfalso
      unfold Lib.occAt at h1
      obtain ⟨r, hr⟩ := List.isPrefixOf_iff_prefix.1 h1
      have : c ∈ List.drop j l := by rw [← hr]; simp
      exact h (List.mem_of_mem_drop this)
    · simpa using h1
  unfold Lib.cut
  rw [hi]
  rfl

theorem cut_found (l sep : List UInt8) (h : (Lib.cut l sep).2.2 = true) : l = (Lib.cut l sep).1 ++ sep ++ (Lib.cut l sep).2.1 := by
  unfold Lib.cut at h ⊢
  rcases Lib.index_spec l sep with ⟨h1, _⟩ | ⟨i, h1, h2, h3, _⟩
  · rw [h1] at h; cases h
  · rw [h1, if_pos (by omega)]
    simp only [Int.toNat_natCast]
    unfold Lib.occAt at h3
    have := prefix_cut _ _ h3
    rw [List.drop_drop] at this
    rw [List.append_assoc, ← this, List.take_append_drop]

theorem not_dig_mem {c : UInt8} {D : List UInt8} (hD : D.all dig = true) (hc : dig c = false) : c ∉ D := by
  intro h
  have := List.all_eq_true.1 hD c h
  rw [hc] at this
  cases this

theorem two_iff (s : Nat) (c : List UInt8 × List UInt8 × Bool) (x : Nat × Nat × Nat) : two s c = some x ↔ ∃ M m, Num c.1 M ∧ Num c.2.1 m ∧ x = (s, M, m) := by
  unfold two
  constructor
  · intro h
    split at h
    · cases h
    · rename_i m hm
      split at h
      · cases h
      · rename_i M hM
        simp only [Option.some.injEq] at h
        exact ⟨M, m, (num_iff _ _).1 hM, (num_iff _ _).1 hm, h.symm⟩
  · rintro ⟨M, m, hM, hm, rfl⟩
    rw [(num_iff _ _).2 hm, (num_iff _ _).2 hM]

theorem pvr_iff (rest : List UInt8) (x : Nat × Nat × Nat) : pvr rest = some x ↔ G rest x := by
  constructor
  · intro h
    unfold pvr at h
    by_cases h1 : (Lib.cut rest beta).2.2 = true
    · rw [if_pos h1] at h
      obtain ⟨M, m, hM, hm, hx⟩ := (two_iff _ _ _).1 h
      exact Or.inr (Or.inl ⟨_, _, M, m, cut_found _ _ h1, hM, hm, hx⟩)
    · rw [if_neg h1] at h
      by_cases h2 : (Lib.cut rest alpha).2.2 = true
      · rw [if_pos h2] at h
        obtain ⟨M, m, hM, hm, hx⟩ := (two_iff _ _ _).1 h
        exact Or.inr (Or.inr ⟨_, _, M, m, cut_found _ _ h2, hM, hm, hx⟩)
      · rw [if_neg h2] at h
        split at h
        · cases h
        · rename_i M hM
          simp only [Option.some.injEq] at h
          exact Or.inl ⟨M, h.symm, (num_iff _ _).1 hM⟩
  · rintro (⟨M, rfl, hM⟩ | ⟨D, E, M, m, rfl, hM, hm, rfl⟩ | ⟨D, E, M, m, rfl, hM, hm, rfl⟩)
    · have h1 : (Lib.cut rest beta).2.2 = false := cut_not _ _ _ (not_dig_mem hM.2.1 (by decide))
      have h2 : (Lib.cut rest alpha).2.2 = false := cut_not _ _ _ (not_dig_mem hM.2.1 (by decide))
      unfold pvr
      rw [h1, h2, (num_iff _ _).2 hM]
      rfl
    · have h1 : Lib.cut (D ++ beta ++ E) beta = (D, E, true) := cut_behind D E 98 _ hM.2.1 (by decide)
      unfold pvr
      rw [h1]
      exact (two_iff _ _ _).2 ⟨M, m, hM, hm, rfl⟩
    · have h1 : (Lib.cut (D ++ alpha ++ E) beta).2.2 = false := by
        refine cut_not _ _ _ ?_
        have a1 := not_dig_mem (c := 98) hM.2.1 (by decide)
        have a2 := not_dig_mem (c := 98) hm.2.1 (by decide)
        simp [a1, a2, alpha]
      have h2 : Lib.cut (D ++ alpha ++ E) alpha = (D, E, true) := cut_behind D E 97 _ hM.2.1 (by decide)
      unfold pvr
      rw [h1, h2]
      exact (two_iff _ _ _).2 ⟨M, m, hM, hm, rfl⟩

theorem agree (rest : List UInt8) : pvr rest = mdr rest := by
  apply Option.ext
  intro x
  rw [pvr_iff, mdr_iff]

end Plain
end Go.Proofs.Qxb6601736aDoor
