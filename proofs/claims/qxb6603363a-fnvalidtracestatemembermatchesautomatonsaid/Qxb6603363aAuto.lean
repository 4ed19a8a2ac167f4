import Derived.Test.Qxb6603363aRows
import Derived.WalkKit
import Derived.WalkSpells
import Derived.WalkLawsBesides
namespace Go.Proofs.Qxb6603363a
open Go.RowKit

def alnumB (c : Int) : Bool := decide (97 ≤ c ∧ c ≤ 122) || decide (48 ≤ c ∧ c ≤ 57)
def digB (c : Int) : Bool := decide (48 ≤ c ∧ c ≤ 57)

theorem ret_bool {a b : Bool} (h : a = b) : Ending.returned (.bool a) = .returned (.bool b) := by rw [h]

set_option maxHeartbeats 400000 in
theorem bytes_any (s : ByteArray) (w : World) (hs : s.size ≤ maxLen) :
    Calls Try.prog 16 #[.string s] w fun e w' => e = .returned (.bool (decide (s.size ≤ 1048576))) ∧ w' = w := by
  unfold maxLen at hs
  by_cases h : (1048576 : Int) < s.size
  · have e : decide (s.size ≤ 1048576) = false := by simp; omega
    rw [e]
    go_enter Try.func16, Try.ntmps16
    go_wp2
    go_ret
    exact ⟨rfl, rfl⟩
  · have e : decide (s.size ≤ 1048576) = true := by simp; omega
    rw [e]
    go_enter Try.func16, Try.ntmps16
    go_wp2
    go_ret
    exact ⟨rfl, rfl⟩

set_option maxHeartbeats 400000 in
theorem dig_any (c : Int) (w : World) :
    Calls Try.prog 15 #[.int .u8 c] w fun e w' => e = .returned (.bool (digB c)) ∧ w' = w := by
  by_cases h1 : 48 ≤ c
  · by_cases h2 : c ≤ 57
    · have e : digB c = true := by simp [digB]; omega
      rw [e]
      go_enter Try.func15, Try.ntmps15
      go_wp2
      go_ret
      exact ⟨rfl, rfl⟩
    · have e : digB c = false := by simp [digB]; omega
      rw [e]
      go_enter Try.func15, Try.ntmps15
      go_wp2
      go_ret
      exact ⟨rfl, rfl⟩
  · have e : digB c = false := by simp [digB]; omega
    rw [e]
    go_enter Try.func15, Try.ntmps15
    go_wp2
    go_ret
    exact ⟨rfl, rfl⟩

set_option maxHeartbeats 400000 in
theorem alnum_any (c : Int) (w : World) :
    Calls Try.prog 20 #[.int .u8 c] w fun e w' => e = .returned (.bool (alnumB c)) ∧ w' = w := by
  by_cases h1 : 97 ≤ c
  · by_cases h2 : c ≤ 122
    · have e : alnumB c = true := by simp [alnumB]; omega
      rw [e]
      go_enter Try.func20, Try.ntmps20
      go_wp2
      go_ret
      exact ⟨rfl, rfl⟩
    · have e : alnumB c = digB c := by simp [alnumB, digB]; omega
      rw [e]
      go_enter Try.func20, Try.ntmps20
      go_wp2_with (go_at_call 15; refine (dig_any _ _).mono ?_; rintro e w' ⟨rfl, rfl⟩)
      go_ret
      exact ⟨rfl, rfl⟩
  · have e : alnumB c = digB c := by simp [alnumB, digB]; omega
    rw [e]
    go_enter Try.func20, Try.ntmps20
    go_wp2_with (go_at_call 15; refine (dig_any _ _).mono ?_; rintro e w' ⟨rfl, rfl⟩)
    go_ret
    exact ⟨rfl, rfl⟩

set_option maxHeartbeats 400000 in
theorem lower_any (c : Int) (w : World) :
    Calls Try.prog 31 #[.int .u8 c] w fun e w' => e = .returned (.bool (alnumB c)) ∧ w' = w := by
  by_cases h1 : 97 ≤ c
  · by_cases h2 : c ≤ 122
    · have e : alnumB c = true := by simp [alnumB]; omega
      rw [e]
      go_enter Try.func31, Try.ntmps31
      go_wp2
      go_ret
      exact ⟨rfl, rfl⟩
    · have e : alnumB c = false := by simp [alnumB]; omega
      rw [e]
      have h3 : 48 ≤ c := by omega
      have h4 : ¬ c ≤ 57 := by omega
      go_enter Try.func31, Try.ntmps31
      go_wp2
      go_ret
      exact ⟨rfl, rfl⟩
  · by_cases h3 : 48 ≤ c
    · by_cases h4 : c ≤ 57
      · have e : alnumB c = true := by simp [alnumB]; omega
        rw [e]
        go_enter Try.func31, Try.ntmps31
        go_wp2
        go_ret
        exact ⟨rfl, rfl⟩
      · have e : alnumB c = false := by simp [alnumB]; omega
        rw [e]
        go_enter Try.func31, Try.ntmps31
        go_wp2
        go_ret
        exact ⟨rfl, rfl⟩
    · have e : alnumB c = false := by simp [alnumB]; omega
      rw [e]
      go_enter Try.func31, Try.ntmps31
      go_wp2
      go_ret
      exact ⟨rfl, rfl⟩

end Go.Proofs.Qxb6603363a
