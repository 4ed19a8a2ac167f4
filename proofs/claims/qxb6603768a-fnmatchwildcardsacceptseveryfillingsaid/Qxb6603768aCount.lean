import Derived.Test.Qxb6603768aRows
import Derived.Test.Qxb6603768aPlain
import Derived.WalkKit
import Derived.WalkSpells
import Derived.WalkLawsBesides
namespace Go.Proofs.Qxb6603768a
open Go.RowKit

theorem size_len (s : ByteArray) : s.size = s.data.toList.length := by simp

theorem take_snoc (s : ByteArray) (k : Nat) (h : k < s.size) : s.data.toList.take (k + 1) = s.data.toList.take k ++ [s[k]] := by
  rw [List.take_succ_eq_append_getElem (by simpa using h)]; rfl

theorem take_all (s : ByteArray) (k : Nat) (h : ¬ k < s.size) : s.data.toList.take k = s.data.toList := by
  apply List.take_of_length_le
  have := size_len s
  omega

theorem beqc (c d : UInt8) (n : Int) (h : (d.toNat : Int) = n) : ((c.toNat : Int) == n) = (c == d) := by
  subst h
  rw [Bool.eq_iff_iff]
  simp only [beq_iff_eq]
  constructor
  · intro h; apply UInt8.toNat_inj.1; omega
  · rintro rfl; rfl

set_option maxHeartbeats 400000 in
theorem bytes_any (s t : ByteArray) (w : World) (hs : s.size ≤ maxLen) (ht : t.size ≤ maxLen) :
    Calls Try.prog 11 #[.string s, .string t] w fun e w' => e = .returned (.bool (decide (s.size + t.size ≤ 1048576))) ∧ w' = w := by
  unfold maxLen at hs ht
  by_cases h : (1048576 : Int) < s.size
  · have e : decide (s.size + t.size ≤ 1048576) = false := by simp; omega
    rw [e]
    go_enter Try.func11, Try.ntmps11
    go_wp2
    go_ret
    exact ⟨rfl, rfl⟩
  · by_cases h2 : (1048576 : Int) < t.size
    · have e : decide (s.size + t.size ≤ 1048576) = false := by simp; omega
      rw [e]
      go_enter Try.func11, Try.ntmps11
      go_wp2
      go_ret
      exact ⟨rfl, rfl⟩
    · by_cases h3 : (1048576 : Int) < s.size + t.size
      · have e : decide (s.size + t.size ≤ 1048576) = false := by simp; omega
        rw [e]
        go_enter Try.func11, Try.ntmps11
        go_wp2
        go_ret
        exact ⟨rfl, rfl⟩
      · have e : decide (s.size + t.size ≤ 1048576) = true := by simp; omega
        rw [e]
        go_enter Try.func11, Try.ntmps11
        go_wp2
        go_ret
        exact ⟨rfl, rfl⟩

theorem stars_snoc (l : List UInt8) (c : UInt8) : Plain.stars (l ++ [c]) = Plain.stars l + (if (c == 42) = true then 1 else 0) := by
  rw [Plain.stars_append]
  congr 1

theorem ret_int {k : IntKind} {a b : Int} (h : a = b) : Ending.returned (.int k a) = .returned (.int k b) := by rw [h]

set_option maxHeartbeats 400000 in
theorem stars_any (s : ByteArray) (w : World) (hs : s.size ≤ 1048576) :
    Calls Try.prog 8 #[.string s] w fun e w' => e = .returned (.int .i64 (Plain.stars s.data.toList)) ∧ w' = w := by
  go_enter Try.func8, Try.ntmps8
  go_wp2
  go_loop [3, 4] (fun n i => ∃ k m : Nat, k ≤ s.size ∧ m ≤ k ∧ i = .int .i64 k ∧ n = .int .i64 m ∧ Hid (m = Plain.stars (s.data.toList.take k))) (fun _ i => s.size - (intOf i).toNat)
  case atStart => exact ⟨0, 0, Nat.zero_le _, Nat.le_refl _, rfl, rfl, (rfl : 0 = Plain.stars (s.data.toList.take 0))⟩
  case round =>
    obtain ⟨k, m, hk, hm, rfl, rfl, H⟩ := hrel
    by_cases hlt : k < s.size
    · cases hc : ((s[k].toNat : Int) == 42)
      · have HN : Hid (m = Plain.stars (s.data.toList.take (k + 1))) := by
          show m = _
          rw [beqc _ 42 42 rfl] at hc
          rw [take_snoc s k hlt, stars_snoc, hc, H.out]; simp
        clear H
        go_wp2
        go_round
        case rel => exact ⟨k + 1, m, by omega, by omega, by go_num, rfl, HN⟩
        case measure => simp [intOf]; omega
      · have HN : Hid (m + 1 = Plain.stars (s.data.toList.take (k + 1))) := by
          show m + 1 = _
          rw [beqc _ 42 42 rfl] at hc
          rw [take_snoc s k hlt, stars_snoc, hc, H.out]; simp
        clear H
        go_wp2
        go_round
        case rel => exact ⟨k + 1, m + 1, by omega, by omega, by go_num, by go_num, HN⟩
        case measure => simp [intOf]; omega
    · have HN : Hid (m = Plain.stars s.data.toList) := by
        have h1 := H.out; rw [take_all s k hlt] at h1; exact h1
      clear H
      go_wp2
      go_ret
      exact ⟨ret_int (by rw [HN.out]), rfl⟩
end Go.Proofs.Qxb6603768a
