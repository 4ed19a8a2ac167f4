import Derived.Test.Qxb6602520aRows
import Derived.Test.Qxb6602520aPlain
import Derived.WalkKit
import Derived.WalkSpells
import Derived.WalkLawsBesides
namespace Go.Proofs.Qxb6602520a
open Go.RowKit

theorem hide {p : Prop} (h : p) : Hid p := h
theorem ret_bool {a b : Bool} (h : a = b) : Ending.returned (.bool a) = .returned (.bool b) := by rw [h]
theorem size_len (s : ByteArray) : s.size = s.data.toList.length := by simp

theorem beqc (c d : UInt8) (n : Int) (h : (d.toNat : Int) = n) : ((c.toNat : Int) == n) = (c == d) := by
  subst h
  rw [Bool.eq_iff_iff]
  simp only [beq_iff_eq]
  constructor
  · intro h; apply UInt8.toNat_inj.1; omega
  · rintro rfl; rfl

theorem drop_at (s : ByteArray) (k : Nat) (h : k < s.size) : s.data.toList.drop k = s[k] :: s.data.toList.drop (k + 1) := by
  rw [List.drop_eq_getElem_cons (by simpa using h)]; rfl
theorem drop_end (s : ByteArray) (k : Nat) (h : ¬ k < s.size) : s.data.toList.drop k = [] := by
  apply List.drop_eq_nil_of_le
  have := size_len s
  omega
theorem take_snoc (s : ByteArray) (k : Nat) (h : k < s.size) : s.data.toList.take (k + 1) = s.data.toList.take k ++ [s[k]] := by
  rw [List.take_succ_eq_append_getElem (by simpa using h)]; rfl
theorem take_all (s : ByteArray) (k : Nat) (h : ¬ k < s.size) : s.data.toList.take k = s.data.toList := by
  apply List.take_of_length_le
  have := size_len s
  omega

/-- white space, over numbers -/
def spI (c : Int) : Bool := c == 32 || c == 9 || c == 10 || c == 13 || c == 12 || c == 11
theorem spI_eq (c : UInt8) : spI (c.toNat : Int) = Plain.sp c := by
  unfold spI Plain.sp
  rw [beqc c 32 32 rfl, beqc c 9 9 rfl, beqc c 10 10 rfl, beqc c 13 13 rfl, beqc c 12 12 rfl, beqc c 11 11 rfl]

theorem sp_cases (x : Int) :
    (spI x = true ∧ (x == 32) = true) ∨
    (spI x = true ∧ (x == 32) = false ∧ (x == 9) = true) ∨
    (spI x = true ∧ (x == 32) = false ∧ (x == 9) = false ∧ (x == 10) = true) ∨
    (spI x = true ∧ (x == 32) = false ∧ (x == 9) = false ∧ (x == 10) = false ∧ (x == 13) = true) ∨
    (spI x = true ∧ (x == 32) = false ∧ (x == 9) = false ∧ (x == 10) = false ∧ (x == 13) = false ∧ (x == 12) = true) ∨
    (spI x = true ∧ (x == 32) = false ∧ (x == 9) = false ∧ (x == 10) = false ∧ (x == 13) = false ∧ (x == 12) = false ∧ (x == 11) = true) ∨
    (spI x = false ∧ (x == 32) = false ∧ (x == 9) = false ∧ (x == 10) = false ∧ (x == 13) = false ∧ (x == 12) = false ∧ (x == 11) = false) := by
  unfold spI
  cases (x == 32) <;> cases (x == 9) <;> cases (x == 10) <;> cases (x == 13) <;> cases (x == 12) <;> cases (x == 11) <;> decide

set_option maxHeartbeats 400000 in
theorem blank_any (c : Int) (w : World) :
    Calls Try.prog 19 #[.int .u8 c] w fun e w' => e = .returned (.bool (spI c)) ∧ w' = w := by
  rcases sp_cases c with ⟨e, h1⟩ | ⟨e, h1, h2⟩ | ⟨e, h1, h2, h3⟩ | ⟨e, h1, h2, h3, h4⟩ | ⟨e, h1, h2, h3, h4, h5⟩ | ⟨e, h1, h2, h3, h4, h5, h6⟩ | ⟨e, h1, h2, h3, h4, h5, h6⟩
  all_goals
    rw [e]
    go_enter Try.func19, Try.ntmps19
    go_wp2
    go_ret
    exact ⟨rfl, rfl⟩

set_option maxHeartbeats 400000 in
theorem space_any (c : Int) (w : World) :
    Calls Try.prog 32 #[.int .u8 c] w fun e w' => e = .returned (.bool (spI c)) ∧ w' = w := by
  rcases sp_cases c with ⟨e, h1⟩ | ⟨e, h1, h2⟩ | ⟨e, h1, h2, h3⟩ | ⟨e, h1, h2, h3, h4⟩ | ⟨e, h1, h2, h3, h4, h5⟩ | ⟨e, h1, h2, h3, h4, h5, h6⟩ | ⟨e, h1, h2, h3, h4, h5, h6⟩
  all_goals
    rw [e]
    go_enter Try.func32, Try.ntmps32
    go_wp2
    go_ret
    exact ⟨rfl, rfl⟩

theorem inner_cases (n : Nat) :
    (Plain.innerB n = 32 ∧ ((n : Int) % 5 == 0) = true) ∨
    (Plain.innerB n = 9 ∧ ((n : Int) % 5 == 0) = false ∧ ((n : Int) % 5 == 1) = true) ∨
    (Plain.innerB n = 13 ∧ ((n : Int) % 5 == 0) = false ∧ ((n : Int) % 5 == 1) = false ∧ ((n : Int) % 5 == 2) = true) ∨
    (Plain.innerB n = 12 ∧ ((n : Int) % 5 == 0) = false ∧ ((n : Int) % 5 == 1) = false ∧ ((n : Int) % 5 == 2) = false ∧ ((n : Int) % 5 == 3) = true) ∨
    (Plain.innerB n = 11 ∧ ((n : Int) % 5 == 0) = false ∧ ((n : Int) % 5 == 1) = false ∧ ((n : Int) % 5 == 2) = false ∧ ((n : Int) % 5 == 3) = false) := by
  have h : n % 5 = 0 ∨ n % 5 = 1 ∨ n % 5 = 2 ∨ n % 5 = 3 ∨ n % 5 = 4 := by omega
  unfold Plain.innerB
  simp only [beq_iff_eq, beq_eq_false_iff_ne]
  rcases h with h | h | h | h | h
  · left; simp only [h]; exact ⟨rfl, by omega⟩
  · right; left; simp only [h]; exact ⟨rfl, by omega, by omega⟩
  · right; right; left; simp only [h]; exact ⟨rfl, by omega, by omega, by omega⟩
  · right; right; right; left; simp only [h]; exact ⟨rfl, by omega, by omega, by omega, by omega⟩
  · right; right; right; right; simp only [h]; exact ⟨rfl, by omega, by omega, by omega, by omega⟩

theorem lead_cases (n : Nat) :
    (Plain.leadL n = [32] ∧ ((n : Int) % 7 == 0) = true) ∨
    (Plain.leadL n = [9] ∧ ((n : Int) % 7 == 0) = false ∧ ((n : Int) % 7 == 1) = true) ∨
    (Plain.leadL n = [10] ∧ ((n : Int) % 7 == 0) = false ∧ ((n : Int) % 7 == 1) = false ∧ ((n : Int) % 7 == 2) = true) ∨
    (Plain.leadL n = [13] ∧ ((n : Int) % 7 == 0) = false ∧ ((n : Int) % 7 == 1) = false ∧ ((n : Int) % 7 == 2) = false ∧ ((n : Int) % 7 == 3) = true) ∨
    (Plain.leadL n = [12] ∧ ((n : Int) % 7 == 0) = false ∧ ((n : Int) % 7 == 1) = false ∧ ((n : Int) % 7 == 2) = false ∧ ((n : Int) % 7 == 3) = false ∧ ((n : Int) % 7 == 4) = true) ∨
    (Plain.leadL n = [11] ∧ ((n : Int) % 7 == 0) = false ∧ ((n : Int) % 7 == 1) = false ∧ ((n : Int) % 7 == 2) = false ∧ ((n : Int) % 7 == 3) = false ∧ ((n : Int) % 7 == 4) = false ∧ ((n : Int) % 7 == 5) = true) ∨
    (Plain.leadL n = [] ∧ ((n : Int) % 7 == 0) = false ∧ ((n : Int) % 7 == 1) = false ∧ ((n : Int) % 7 == 2) = false ∧ ((n : Int) % 7 == 3) = false ∧ ((n : Int) % 7 == 4) = false ∧ ((n : Int) % 7 == 5) = false) := by
  have h : n % 7 = 0 ∨ n % 7 = 1 ∨ n % 7 = 2 ∨ n % 7 = 3 ∨ n % 7 = 4 ∨ n % 7 = 5 ∨ n % 7 = 6 := by omega
  unfold Plain.leadL
  simp only [beq_iff_eq, beq_eq_false_iff_ne]
  rcases h with h | h | h | h | h | h | h
  · left; simp only [h]; exact ⟨rfl, by omega⟩
  · right; left; simp only [h]; exact ⟨rfl, by omega, by omega⟩
  · right; right; left; simp only [h]; exact ⟨rfl, by omega, by omega, by omega⟩
  · right; right; right; left; simp only [h]; exact ⟨rfl, by omega, by omega, by omega, by omega⟩
  · right; right; right; right; left; simp only [h]; exact ⟨rfl, by omega, by omega, by omega, by omega, by omega⟩
  · right; right; right; right; right; left; simp only [h]; exact ⟨rfl, by omega, by omega, by omega, by omega, by omega, by omega⟩
  · right; right; right; right; right; right; simp only [h]; exact ⟨rfl, by omega, by omega, by omega, by omega, by omega, by omega⟩

set_option maxHeartbeats 400000 in
theorem inner_any (c : UInt8) (w : World) :
    Calls Try.prog 25 #[.int .u8 (c.toNat : Int)] w fun e w' => e = .returned (.int .u8 ((Plain.innerB c.toNat).toNat : Int)) ∧ w' = w := by
  have hc : c.toNat < 256 := UInt8.toNat_lt c
  rcases inner_cases c.toNat with ⟨e, h1⟩ | ⟨e, h1, h2⟩ | ⟨e, h1, h2, h3⟩ | ⟨e, h1, h2, h3, h4⟩ | ⟨e, h1, h2, h3, h4⟩
  all_goals
    rw [e]
    clear e
    go_enter Try.func25, Try.ntmps25
    go_wp2
    go_ret
    exact ⟨rfl, rfl⟩

set_option maxHeartbeats 400000 in
theorem lead_any (c : UInt8) (w : World) :
    (Plain.leadL c.toNat = [] ∧ Calls Try.prog 24 #[.int .u8 (c.toNat : Int)] w fun e w' => e = .returned (.tuple #[.int .u8 0, .bool false]) ∧ w' = w) ∨
    (∃ b : UInt8, Plain.leadL c.toNat = [b] ∧ Calls Try.prog 24 #[.int .u8 (c.toNat : Int)] w fun e w' => e = .returned (.tuple #[.int .u8 (b.toNat : Int), .bool true]) ∧ w' = w) := by
  have hc : c.toNat < 256 := UInt8.toNat_lt c
  rcases lead_cases c.toNat with ⟨e, h1⟩ | ⟨e, h1, h2⟩ | ⟨e, h1, h2, h3⟩ | ⟨e, h1, h2, h3, h4⟩ | ⟨e, h1, h2, h3, h4, h5⟩ | ⟨e, h1, h2, h3, h4, h5, h6⟩ | ⟨e, h1, h2, h3, h4, h5, h6⟩
  case inr.inr.inr.inr.inr.inr =>
    refine Or.inl ⟨e, ?_⟩
    clear e
    go_enter Try.func24, Try.ntmps24
    go_wp2
    go_ret2
    exact ⟨rfl, rfl⟩
  all_goals
    refine Or.inr ⟨_, e, ?_⟩
    clear e
    go_enter Try.func24, Try.ntmps24
    go_wp2
    go_ret2
    exact ⟨rfl, rfl⟩

theorem cm_two (a b : UInt8) (r : List UInt8) : Plain.cm (a :: b :: r) = ((a == 45 && b == 45) && (match r with | [] => true | c :: _ => Plain.sp c)) := rfl

theorem cm_eq (s : ByteArray) : Plain.cm s.data.toList =
    (if h : 1 < s.size then (((s[0].toNat : Int) == 45) && ((s[1].toNat : Int) == 45)) && (if h2 : 2 < s.size then spI (s[2].toNat : Int) else true) else false) := by
  by_cases h : 1 < s.size
  · rw [dif_pos h]
    have h0 := drop_at s 0 (by omega)
    have h1 := drop_at s 1 h
    rw [List.drop_zero] at h0
    rw [h0, h1, cm_two, beqc _ 45 45 rfl, beqc _ 45 45 rfl]
    by_cases h2 : 2 < s.size
    · rw [dif_pos h2, drop_at s 2 h2, spI_eq]
    · rw [dif_neg h2, drop_end s 2 h2]
  · rw [dif_neg h]
    by_cases h0 : 0 < s.size
    · have e0 := drop_at s 0 h0
      rw [List.drop_zero] at e0
      rw [e0, drop_end s 1 h]
      rfl
    · have e0 := drop_end s 0 h0
      rw [List.drop_zero] at e0
      rw [e0]
      rfl

set_option maxHeartbeats 400000 in
theorem comment_any (s : ByteArray) (w : World) (hs : s.size ≤ 1048576) :
    Calls Try.prog 20 #[.string s, .int .i64 0] w fun e w' => e = .returned (.bool (Plain.cm s.data.toList)) ∧ w' = w := by
  have HE := hide (cm_eq s)
  by_cases h1 : 1 < s.size
  · cases a0 : ((s[0].toNat : Int) != 45)
    · have b0 : ((s[0].toNat : Int) == 45) = true := by simpa [bne] using a0
      cases a1 : ((s[1].toNat : Int) != 45)
      · have b1 : ((s[1].toNat : Int) == 45) = true := by simpa [bne] using a1
        by_cases h2 : 2 < s.size
        · have e : ((2 : Int) == (s.size : Int)) = false := by rw [beq_eq_false_iff_ne]; omega
          have HF : Hid (Plain.cm s.data.toList = spI (s[2].toNat : Int)) := by
            show Plain.cm _ = _
            rw [HE.out, dif_pos h1, dif_pos h2, b0, b1]; rfl
          clear HE b0 b1
          go_enter Try.func20, Try.ntmps20
          go_wp2_with (go_at_call 19; refine (blank_any _ _).mono ?_; rintro e w' ⟨rfl, rfl⟩)
          go_ret
          exact ⟨ret_bool HF.out.symm, rfl⟩
        · have e : ((2 : Int) == (s.size : Int)) = true := by rw [beq_iff_eq]; omega
          have HF : Hid (Plain.cm s.data.toList = true) := by
            show Plain.cm _ = _
            rw [HE.out, dif_pos h1, dif_neg h2, b0, b1]; rfl
          clear HE b0 b1
          go_enter Try.func20, Try.ntmps20
          go_wp2
          go_ret
          exact ⟨ret_bool HF.out.symm, rfl⟩
      · have b1 : ((s[1].toNat : Int) == 45) = false := by simpa [bne] using a1
        have HF : Hid (Plain.cm s.data.toList = false) := by
          show Plain.cm _ = _
          rw [HE.out, dif_pos h1, b1, Bool.and_false, Bool.false_and]
        clear HE b0 b1
        go_enter Try.func20, Try.ntmps20
        go_wp2
        go_ret
        exact ⟨ret_bool HF.out.symm, rfl⟩
    · have b0 : ((s[0].toNat : Int) == 45) = false := by simpa [bne] using a0
      have HF : Hid (Plain.cm s.data.toList = false) := by
        show Plain.cm _ = _
        rw [HE.out, dif_pos h1, b0, Bool.false_and, Bool.false_and]
      clear HE b0
      go_enter Try.func20, Try.ntmps20
      go_wp2
      go_ret
      exact ⟨ret_bool HF.out.symm, rfl⟩
  · have HF : Hid (Plain.cm s.data.toList = false) := by
      show Plain.cm _ = _
      rw [HE.out, dif_neg h1]
    clear HE
    go_enter Try.func20, Try.ntmps20
    go_wp2
    go_ret
    exact ⟨ret_bool HF.out.symm, rfl⟩
end Go.Proofs.Qxb6602520a
