import Derived.Test.Qxb6603363aAuto
import Derived.Test.Qxb6603363aPlain
namespace Go.Proofs.Qxb6603363a
open Go.RowKit

theorem alnumB_eq (c : UInt8) : alnumB (c.toNat : Int) = Plain.alnum c := by
  unfold alnumB Plain.alnum
  congr 1 <;> (rw [decide_eq_decide]; omega)

theorem drop_at (s : ByteArray) (k : Nat) (h : k < s.size) : s.data.toList.drop k = s[k] :: s.data.toList.drop (k + 1) := by
  rw [List.drop_eq_getElem_cons (by simpa using h)]; rfl

theorem drop_end (s : ByteArray) (k : Nat) (h : ¬ k < s.size) : s.data.toList.drop k = [] := by
  apply List.drop_eq_nil_of_le
  have : s.size = s.data.toList.length := by simp
  omega

theorem eq61 (c : UInt8) : ((c.toNat : Int) == 61) = (c == 61) := by
  rw [Bool.eq_iff_iff]
  simp only [beq_iff_eq]
  constructor
  · intro h; apply UInt8.toNat_inj.1; show c.toNat = 61; omega
  · rintro rfl; rfl

theorem beqc (c d : UInt8) (n : Int) (h : (d.toNat : Int) = n) : ((c.toNat : Int) == n) = (c == d) := by
  subst h
  rw [Bool.eq_iff_iff]
  simp only [beq_iff_eq]
  constructor
  · intro h; apply UInt8.toNat_inj.1; omega
  · rintro rfl; rfl

def keyI (c : Int) : Bool := alnumB c || c == 95 || c == 45 || c == 42 || c == 47 || c == 64
theorem keyI_eq (c : UInt8) : keyI (c.toNat : Int) = Plain.keyb c := by
  unfold keyI Plain.keyb Plain.punct
  rw [alnumB_eq, beqc c 95 95 rfl, beqc c 45 45 rfl, beqc c 42 42 rfl, beqc c 47 47 rfl, beqc c 64 64 rfl]
  simp only [Bool.or_assoc]

theorem key_cases (x : Int) :
    (Hid (keyI x = true) ∧ alnumB x = true) ∨
    (Hid (keyI x = true) ∧ alnumB x = false ∧ (x == 95) = true) ∨
    (Hid (keyI x = true) ∧ alnumB x = false ∧ (x == 95) = false ∧ (x == 45) = true) ∨
    (Hid (keyI x = true) ∧ alnumB x = false ∧ (x == 95) = false ∧ (x == 45) = false ∧ (x == 42) = true) ∨
    (Hid (keyI x = true) ∧ alnumB x = false ∧ (x == 95) = false ∧ (x == 45) = false ∧ (x == 42) = false ∧ (x == 47) = true) ∨
    (Hid (keyI x = true) ∧ alnumB x = false ∧ (x == 95) = false ∧ (x == 45) = false ∧ (x == 42) = false ∧ (x == 47) = false ∧ (x == 64) = true) ∨
    (Hid (keyI x = false) ∧ alnumB x = false ∧ (x == 95) = false ∧ (x == 45) = false ∧ (x == 42) = false ∧ (x == 47) = false ∧ (x == 64) = false) := by
  unfold keyI Hid
  cases alnumB x <;> cases (x == 95) <;> cases (x == 45) <;> cases (x == 42) <;> cases (x == 47) <;> cases (x == 64) <;> decide

def valI (c : Int) : Bool := !(decide (c < 32) || decide (126 < c) || c == 61)
theorem valI_eq (c : UInt8) : valI (c.toNat : Int) = Plain.valb c := by
  unfold valI Plain.valb
  rw [beqc c 61 61 rfl, Bool.not_or, Bool.not_or]
  congr 1
  rw [← decide_not, ← decide_not, ← Bool.decide_and, decide_eq_decide]
  omega

theorem val_cases (x : Int) :
    (Hid (valI x = false) ∧ x < 32) ∨ (Hid (valI x = false) ∧ 32 ≤ x ∧ 126 < x) ∨ (Hid (valI x = false) ∧ 32 ≤ x ∧ x ≤ 126 ∧ (x == 61) = true) ∨
    (Hid (valI x = true) ∧ 32 ≤ x ∧ x ≤ 126 ∧ (x == 61) = false) := by
  unfold valI Hid
  by_cases h1 : x < 32
  · left; simp [h1]
  · by_cases h2 : 126 < x
    · right; left; simp [h2]; omega
    · cases h3 : (x == 61)
      · right; right; right; simp [h1, h2]; omega
      · right; right; left; simp; omega

theorem st1_key (s : ByteArray) (k a : Nat) (h : k < s.size) (hk : keyI (s[k].toNat : Int) = true) (he : ((s[k].toNat : Int) == 61) = false)
    (H : Plain.au1 a (s.data.toList.drop k) = Plain.au0 s.data.toList) : Plain.au1 (a + 1) (s.data.toList.drop (k + 1)) = Plain.au0 s.data.toList := by
  rw [keyI_eq] at hk
  rw [beqc _ 61 61 rfl] at he
  rw [drop_at s k h, Plain.au1, he, hk] at H
  simpa using H

theorem st1_bad (s : ByteArray) (k a : Nat) (h : k < s.size) (hk : keyI (s[k].toNat : Int) = false) (he : ((s[k].toNat : Int) == 61) = false)
    (H : Plain.au1 a (s.data.toList.drop k) = Plain.au0 s.data.toList) : false = Plain.au0 s.data.toList := by
  rw [keyI_eq] at hk
  rw [beqc _ 61 61 rfl] at he
  rw [drop_at s k h, Plain.au1, he, hk] at H
  simpa using H

theorem st1_eq (s : ByteArray) (k a : Nat) (h : k < s.size) (he : ((s[k].toNat : Int) == 61) = true)
    (H : Plain.au1 a (s.data.toList.drop k) = Plain.au0 s.data.toList) : Plain.au2 a 0 (s.data.toList.drop (k + 1)) = Plain.au0 s.data.toList := by
  rw [beqc _ 61 61 rfl] at he
  rw [drop_at s k h, Plain.au1, he] at H
  simpa using H

theorem st1_end (s : ByteArray) (k a : Nat) (h : ¬ k < s.size)
    (H : Plain.au1 a (s.data.toList.drop k) = Plain.au0 s.data.toList) : false = Plain.au0 s.data.toList := by
  rw [drop_end s k h, Plain.au1] at H
  exact H

theorem st2_val (s : ByteArray) (k a b : Nat) (h : k < s.size) (hk : valI (s[k].toNat : Int) = true)
    (H : Plain.au2 a b (s.data.toList.drop k) = Plain.au0 s.data.toList) : Plain.au2 a (b + 1) (s.data.toList.drop (k + 1)) = Plain.au0 s.data.toList := by
  rw [valI_eq] at hk
  rw [drop_at s k h, Plain.au2, hk] at H
  simpa using H

theorem st2_bad (s : ByteArray) (k a b : Nat) (h : k < s.size) (hk : valI (s[k].toNat : Int) = false)
    (H : Plain.au2 a b (s.data.toList.drop k) = Plain.au0 s.data.toList) : false = Plain.au0 s.data.toList := by
  rw [valI_eq] at hk
  rw [drop_at s k h, Plain.au2, hk] at H
  simpa using H

theorem st2_end (s : ByteArray) (k a b : Nat) (h : ¬ k < s.size)
    (H : Plain.au2 a b (s.data.toList.drop k) = Plain.au0 s.data.toList) : decide (a ≤ 256 ∧ 1 ≤ b ∧ b ≤ 256) = Plain.au0 s.data.toList := by
  rw [drop_end s k h, Plain.au2] at H
  exact H

set_option maxHeartbeats 1000000 in
theorem auto_any (s : ByteArray) (w : World) (hs : s.size ≤ maxLen) :
    Calls Try.prog 18 #[.string s] w fun e w' => e = .returned (.bool (Plain.au0 s.data.toList)) ∧ w' = w := by
  unfold maxLen at hs
  go_enter Try.func18, Try.ntmps18
  go_wp2
  go_loop [3, 4, 5, 6] (fun st kl vl i => ∃ k : Nat, k ≤ s.size ∧ i = .int .i64 k ∧
      ((k = 0 ∧ st = .int .i64 0 ∧ kl = .int .i64 0 ∧ vl = .int .i64 0) ∨
       (∃ a : Nat, a ≤ k ∧ st = .int .i64 1 ∧ kl = .int .i64 a ∧ vl = .int .i64 0 ∧ Hid (Plain.au1 a (s.data.toList.drop k) = Plain.au0 s.data.toList)) ∨
       (∃ a b : Nat, a ≤ k ∧ b ≤ k ∧ st = .int .i64 2 ∧ kl = .int .i64 a ∧ vl = .int .i64 b ∧ Hid (Plain.au2 a b (s.data.toList.drop k) = Plain.au0 s.data.toList)))) (fun _ _ _ i => s.size - (intOf i).toNat)
  case atStart => exact ⟨0, Nat.zero_le _, rfl, Or.inl ⟨rfl, rfl, rfl, rfl⟩⟩
  case round =>
    obtain ⟨k, hk, rfl, ⟨rfl, rfl, rfl, rfl⟩ | ⟨a, ha, rfl, rfl, rfl, H⟩ | ⟨a, b, ha, hb, rfl, rfl, rfl, H⟩⟩ := hrel
    · by_cases hlt : 0 < s.size
      · have HD : Hid (s.data.toList = s[0] :: s.data.toList.drop 1) := drop_at s 0 hlt
        cases hal : alnumB (s[0].toNat : Int)
        · have HF : Hid (Plain.au0 s.data.toList = false) := by
            have h3 := HD.out; have h2 := hal; rw [alnumB_eq] at h2
            show Plain.au0 _ = _
            rw [h3, Plain.au0, h2]
            simp
          go_wp2_with (go_at_call 20; refine (alnum_any _ _).mono ?_; rintro e w' ⟨rfl, rfl⟩)
          go_ret
          exact ⟨ret_bool HF.out.symm, rfl⟩
        · have HF : Hid (Plain.au1 1 (s.data.toList.drop 1) = Plain.au0 s.data.toList) := by
            have h3 := HD.out; have h2 := hal; rw [alnumB_eq] at h2
            show _ = Plain.au0 _
            rw [h3, Plain.au0, h2]
            simp
          go_wp2_with (go_at_call 20; refine (alnum_any _ _).mono ?_; rintro e w' ⟨rfl, rfl⟩)
          go_round
          case rel => exact ⟨1, by omega, rfl, Or.inr (Or.inl ⟨1, by omega, rfl, rfl, rfl, HF⟩)⟩
          case measure => simp [intOf]; omega
      · have HF : Hid (Plain.au0 s.data.toList = false) := by
          have := drop_end s 0 hlt; rw [List.drop_zero] at this; rw [this]; rfl
        go_wp2
        go_ret
        exact ⟨ret_bool HF.out.symm, rfl⟩
    · by_cases hlt : k < s.size
      · cases he : ((s[k].toNat : Int) == 61)
        · rcases key_cases (s[k].toNat : Int) with ⟨hk, h1⟩ | ⟨hk, h1, h2⟩ | ⟨hk, h1, h2, h3⟩ | ⟨hk, h1, h2, h3, h4⟩ | ⟨hk, h1, h2, h3, h4, h5⟩ | ⟨hk, h1, h2, h3, h4, h5, h6⟩ | ⟨hk, h1, h2, h3, h4, h5, h6⟩
          case inr.inr.inr.inr.inr.inr =>
            have HN : Hid (false = Plain.au0 s.data.toList) := st1_bad s k a hlt hk.out he H.out
            go_wp2_with (go_at_call 20; refine (alnum_any _ _).mono ?_; rintro e w' ⟨rfl, rfl⟩)
            go_ret
            exact ⟨ret_bool HN.out, rfl⟩
          all_goals
            have HN : Hid (Plain.au1 (a + 1) (s.data.toList.drop (k + 1)) = Plain.au0 s.data.toList) := st1_key s k a hlt hk.out he H.out
            clear H hk
            go_wp2_with (go_at_call 20; refine (alnum_any _ _).mono ?_; rintro e w' ⟨rfl, rfl⟩)
            go_round
            case rel => exact ⟨k + 1, by omega, by go_num, Or.inr (Or.inl ⟨a + 1, by omega, rfl, by go_num, rfl, HN⟩)⟩
            case measure => simp [intOf]; omega
        · have HN : Hid (Plain.au2 a 0 (s.data.toList.drop (k + 1)) = Plain.au0 s.data.toList) := st1_eq s k a hlt he H.out
          clear H
          go_wp2_with (go_at_call 20; refine (alnum_any _ _).mono ?_; rintro e w' ⟨rfl, rfl⟩)
          go_round
          case rel => exact ⟨k + 1, by omega, by go_num, Or.inr (Or.inr ⟨a, 0, by omega, by omega, rfl, rfl, rfl, HN⟩)⟩
          case measure => simp [intOf]; omega
      · have HN : Hid (false = Plain.au0 s.data.toList) := st1_end s k a hlt H.out
        go_wp2
        go_ret
        exact ⟨ret_bool HN.out, rfl⟩
    · by_cases hlt : k < s.size
      · rcases val_cases (s[k].toNat : Int) with ⟨hk, h1⟩ | ⟨hk, h1, h2⟩ | ⟨hk, h1, h2, h3⟩ | ⟨hk, h1, h2, h3⟩
        case inr.inr.inr =>
          have HN : Hid (Plain.au2 a (b + 1) (s.data.toList.drop (k + 1)) = Plain.au0 s.data.toList) := st2_val s k a b hlt hk.out H.out
          clear H hk
          go_wp2
          go_round
          case rel => exact ⟨k + 1, by omega, by go_num, Or.inr (Or.inr ⟨a, b + 1, by omega, by omega, rfl, rfl, by go_num, HN⟩)⟩
          case measure => simp [intOf]; omega
        all_goals
          have HN : Hid (false = Plain.au0 s.data.toList) := st2_bad s k a b hlt hk.out H.out
          clear H hk
          go_wp2
          go_ret
          exact ⟨ret_bool HN.out, rfl⟩
      · have HN : Hid (decide (a ≤ 256 ∧ 1 ≤ b ∧ b ≤ 256) = Plain.au0 s.data.toList) := st2_end s k a b hlt H.out
        go_wp2
        all_goals
          go_ret
          refine ⟨ret_bool ?_, rfl⟩
          rw [← HN.out]
          first | (rw [decide_eq_decide]; omega) | (symm; rw [decide_eq_false_iff_not]; omega)
end Go.Proofs.Qxb6603363a
