import Derived.Lib.IndexMore
namespace Go.Proofs.Qxb6602520a
namespace Plain

/-- the dialect's white space -/
def sp (c : UInt8) : Bool := c == 32 || c == 9 || c == 10 || c == 13 || c == 12 || c == 11

/-- does a comment open here? -/
def cm : List UInt8 → Bool
  | a :: b :: r => (a == 45 && b == 45) && (match r with | [] => true | c :: _ => sp c)
  | _ => false

def afterNL : List UInt8 → List UInt8
  | [] => []
  | c :: r => if c == 10 then r else afterNL r

/-- one round of the skipping; 'none': it stops -/
def step : List UInt8 → Option (List UInt8)
  | [] => none
  | c :: r => if sp c = true then some r else if cm (c :: r) = true then some (afterNL (c :: r)) else none

def itn : Nat → List UInt8 → Option (List UInt8)
  | 0, l => some l
  | n + 1, l => (itn n l).bind step

def Reach (l a : List UInt8) : Prop := ∃ n, itn n l = some a

theorem itn_succ (n : Nat) : ∀ l a, step l = some a → itn (n + 1) l = itn n a := by
  induction n with
  | zero => intro l a h; simp [itn, h]
  | succ n ih => intro l a h; rw [itn, ih l a h, itn]

theorem Reach.refl (l : List UInt8) : Reach l l := ⟨0, rfl⟩
theorem Reach.head {l a b : List UInt8} (h : step l = some a) (hr : Reach a b) : Reach l b := by
  obtain ⟨n, hn⟩ := hr
  exact ⟨n + 1, by rw [itn_succ n l a h, hn]⟩
theorem Reach.tail {l a b : List UInt8} (hr : Reach l a) (h : step a = some b) : Reach l b := by
  obtain ⟨n, hn⟩ := hr
  exact ⟨n + 1, by rw [itn, hn]; exact h⟩

theorem itn_stop {l a : List UInt8} {n : Nat} (h : itn n l = some a) (hs : step a = none) : ∀ m, n < m → itn m l = none := by
  intro m hm
  obtain ⟨d, rfl⟩ : ∃ d, m = n + 1 + d := ⟨m - (n + 1), by omega⟩
  clear hm
  induction d with
  | zero => rw [Nat.add_zero, itn, h]; exact hs
  | succ d ih => rw [Nat.add_succ, itn, ih]; rfl

theorem Reach.unique {l a b : List UInt8} (ha : Reach l a) (sa : step a = none) (hb : Reach l b) (sb : step b = none) : a = b := by
  obtain ⟨n, hn⟩ := ha
  obtain ⟨m, hm⟩ := hb
  rcases Nat.lt_trichotomy n m with h | h | h
  · have := itn_stop hn sa m h; rw [hm] at this; cases this
  · subst h; rw [hn] at hm; exact Option.some.inj hm
  · have := itn_stop hm sb n h; rw [hn] at this; cases this

def leadL (c : Nat) : List UInt8 :=
  if c % 7 = 0 then [32] else if c % 7 = 1 then [9] else if c % 7 = 2 then [10] else if c % 7 = 3 then [13] else if c % 7 = 4 then [12] else if c % 7 = 5 then [11] else []
def innerB (c : Nat) : UInt8 :=
  if c % 5 = 0 then 32 else if c % 5 = 1 then 9 else if c % 5 = 2 then 13 else if c % 5 = 3 then 12 else 11
def unl (x : UInt8) : UInt8 := if x == 10 then 32 else x

def piece (lc ic : Nat) (c : List UInt8) (nl : Bool) : List UInt8 :=
  leadL lc ++ ([45, 45, innerB ic] ++ (c.map unl ++ (if nl = true then [10] else [])))

theorem inner_sp (ic : Nat) : sp (innerB ic) = true ∧ (innerB ic == 10) = false := by
  unfold innerB
  repeat (first | (split; (· decide)) | decide)

theorem unl_ne (x : UInt8) : (unl x == 10) = false := by
  unfold unl
  cases h : (x == 10)
  · simpa using h
  · rfl

theorem after_body (c : List UInt8) (t : List UInt8) : afterNL (c.map unl ++ t) = afterNL t := by
  induction c with
  | nil => rfl
  | cons x r ih =>
    rw [List.map_cons, List.cons_append, afterNL, unl_ne]
    exact ih

theorem comment_step (ic : Nat) (c t : List UInt8) (nl : Bool) (h : nl = false → t = []) :
    step ([45, 45, innerB ic] ++ (c.map unl ++ (if nl = true then [10] else [])) ++ t) = some t := by
  obtain ⟨h1, h2⟩ := inner_sp ic
  have e : [45, 45, innerB ic] ++ (c.map unl ++ (if nl = true then [10] else [])) ++ t = 45 :: 45 :: innerB ic :: (c.map unl ++ ((if nl = true then [10] else []) ++ t)) := by simp
  rw [e, step]
  have hs : sp 45 = false := by decide
  rw [hs, if_neg (by decide)]
  have hc : cm (45 :: 45 :: innerB ic :: (c.map unl ++ ((if nl = true then [10] else []) ++ t))) = true := by
    unfold cm; simp [h1]
  rw [if_pos hc]
  congr 1
  rw [afterNL, if_neg (by decide), afterNL, if_neg (by decide), afterNL, h2, if_neg (by decide), after_body]
  cases nl with
  | true => rfl
  | false => rw [h rfl]; rfl

theorem lead_step (lc : Nat) (t : List UInt8) : leadL lc = [] ∨ step (leadL lc ++ t) = some t := by
  have hd : ∀ b : UInt8, sp b = true → step ([b] ++ t) = some t := by
    intro b hb
    show step (b :: t) = some t
    rw [step, if_pos hb]
  unfold leadL
  split
  · exact Or.inr (hd 32 (by decide))
  · split
    · exact Or.inr (hd 9 (by decide))
    · split
      · exact Or.inr (hd 10 (by decide))
      · split
        · exact Or.inr (hd 13 (by decide))
        · split
          · exact Or.inr (hd 12 (by decide))
          · split
            · exact Or.inr (hd 11 (by decide))
            · exact Or.inl rfl

theorem piece_reach (lc ic : Nat) (c t r : List UInt8) (nl : Bool) (h : nl = false → t = []) (hr : Reach t r) : Reach (piece lc ic c nl ++ t) r := by
  unfold piece
  rw [List.append_assoc]
  have h1 := comment_step ic c t nl h
  rcases lead_step lc ([45, 45, innerB ic] ++ (c.map unl ++ (if nl = true then [10] else [])) ++ t) with h2 | h2
  · rw [h2]
    exact Reach.head h1 hr
  · exact Reach.head h2 (Reach.head h1 hr)

/-- the blanks built by the first i comments -/
def blankTo (f : Nat → List UInt8) : Nat → List UInt8
  | 0 => []
  | i + 1 => blankTo f i ++ f i

theorem reach_all (f : Nat → List UInt8) (rest : List UInt8) (n : Nat) (h : ∀ i t, i < n → (i + 1 = n → t = rest) → ∀ r, Reach t r → Reach (f i ++ t) r) :
    ∀ i, i ≤ n → ∀ t, (i = n → t = rest) → ∀ r, Reach t r → Reach (blankTo f i ++ t) r := by
  intro i
  induction i with
  | zero => intro _ t _ r hr; exact hr
  | succ i ih =>
    intro hi t ht r hr
    rw [blankTo, List.append_assoc]
    exact ih (by omega) _ (by omega) r (h i t (by omega) ht r hr)

/-- the law: from the head of the built blanks the skipping lands at the rest -/
theorem law (lc ic : Nat → Nat) (c : Nat → List UInt8) (nl : Nat → Bool) (rest : List UInt8) (n : Nat)
    (hnl : ∀ i, i < n → nl i = false → i + 1 = n ∧ rest = []) :
    Reach (blankTo (fun i => piece (lc i) (ic i) (c i) (nl i)) n ++ rest) rest := by
  refine reach_all _ rest n ?_ n (Nat.le_refl _) rest (fun _ => rfl) rest (Reach.refl _)
  intro i t hi ht r hr
  refine piece_reach _ _ _ t r _ ?_ hr
  intro h
  obtain ⟨h1, h2⟩ := hnl i hi h
  rw [ht h1, h2]

theorem stop_of (rest : List UInt8) (h : ∀ c r, rest = c :: r → sp c = false ∧ cm rest = false) : step rest = none := by
  cases rest with
  | nil => rfl
  | cons c r =>
    obtain ⟨h1, h2⟩ := h c r rfl
    rw [step, h1, h2]
    rfl

theorem afterNL_index (l : List UInt8) : (Lib.indexByte l 10 = -1 ∧ afterNL l = []) ∨ (∃ i : Nat, Lib.indexByte l 10 = i ∧ i < l.length ∧ afterNL l = l.drop (i + 1)) := by
  induction l with
  | nil => left; exact ⟨rfl, rfl⟩
  | cons b r ih =>
    rw [Lib.indexByte, afterNL]
    cases hb : (b == 10)
    · have ef : ∀ {α : Type} (x y : α), (if false = true then x else y) = y := fun _ _ => rfl
      rw [ef, ef]
      rcases ih with ⟨h1, h2⟩ | ⟨i, h1, h2, h3⟩
      · left; rw [h1]; exact ⟨rfl, h2⟩
      · right
        refine ⟨i + 1, ?_, by simp; omega, ?_⟩
        · rw [h1]
          have : ((i : Int) == -1) = false := by rw [beq_eq_false_iff_ne]; omega
          rw [this]; rfl
        · rw [h3]; rfl
    · right
      exact ⟨0, rfl, by simp, rfl⟩
end Plain
end Go.Proofs.Qxb6602520a
