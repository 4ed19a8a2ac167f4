import Derived.Test.Qxb6601736aDoorRows
import Derived.Test.Qxb6601736aDoorPlain
import Derived.Lib.Strings
import Derived.WalkKit
import Derived.WalkSpells
import Derived.WalkLawsBesides
namespace Go.Proofs.Qxb6601736aDoor
open Go.RowKit

theorem ret_bool {a b : Bool} (h : a = b) : Ending.returned (.bool a) = .returned (.bool b) := by rw [h]

set_option maxHeartbeats 400000 in
theorem bytes_any (s : ByteArray) (w : World) (hs : s.size ≤ maxLen) :
    Calls Tryd.prog 5 #[.string s] w fun e w' => e = .returned (.bool (decide (s.size ≤ 1048576))) ∧ w' = w := by
  unfold maxLen at hs
  by_cases h : (1048576 : Int) < s.size
  · have e : decide (s.size ≤ 1048576) = false := by simp; omega
    rw [e]
    go_enter Tryd.func5, Tryd.ntmps5
    go_wp2
    go_ret
    exact ⟨rfl, rfl⟩
  · have e : decide (s.size ≤ 1048576) = true := by simp; omega
    rw [e]
    go_enter Tryd.func5, Tryd.ntmps5
    go_wp2
    go_ret
    exact ⟨rfl, rfl⟩

/-- what the reader has gathered at place k -/
def Acc (s : ByteArray) (i k : Nat) (a : Int) : Prop := ∃ acc : Nat, a = acc ∧ acc ≤ Plain.mx ∧ Plain.rdl acc (s.data.toList.drop k) = Plain.rdl 0 (s.data.toList.drop i)

theorem drop_at (s : ByteArray) (k : Nat) (h : k < s.size) : s.data.toList.drop k = s[k] :: s.data.toList.drop (k + 1) := by
  rw [List.drop_eq_getElem_cons (by simpa using h)]; rfl

theorem size_len (s : ByteArray) : s.size = s.data.toList.length := by simp

theorem drop_end (s : ByteArray) (k : Nat) (h : ¬ k < s.size) : s.data.toList.drop k = [] := by
  apply List.drop_eq_nil_of_le
  have := size_len s
  omega

theorem acc_step {s : ByteArray} {i k : Nat} {a : Int} (H : Acc s i k a) (h : k < s.size) (h1 : 48 ≤ (s[k].toNat : Int)) (h2 : (s[k].toNat : Int) ≤ 57)
    (h3 : a ≤ (18446744073709551615 - ((s[k].toNat : Int) - 48)) / 10) : Acc s i (k + 1) (a * 10 + ((s[k].toNat : Int) - 48)) := by
  obtain ⟨acc, rfl, hm, hr⟩ := H
  have en : Plain.nxt acc s[k] = acc * 10 + (s[k].toNat - 48) := rfl
  have em := Plain.mx_eq
  refine ⟨Plain.nxt acc s[k], by rw [en]; omega, by rw [en]; omega, ?_⟩
  rw [← hr, drop_at s k h, Plain.rdl]
  have hd : Plain.dig s[k] = true := by simp [Plain.dig]; omega
  rw [if_pos hd, if_neg (by omega)]

theorem acc_over {s : ByteArray} {i k : Nat} {a : Int} (H : Acc s i k a) (h : k < s.size) (h1 : 48 ≤ (s[k].toNat : Int)) (h2 : (s[k].toNat : Int) ≤ 57)
    (h3 : (18446744073709551615 - ((s[k].toNat : Int) - 48)) / 10 < a) : Plain.rdl 0 (s.data.toList.drop i) = none := by
  obtain ⟨acc, rfl, hm, hr⟩ := H
  have em := Plain.mx_eq
  rw [← hr, drop_at s k h, Plain.rdl]
  have hd : Plain.dig s[k] = true := by simp [Plain.dig]; omega
  rw [if_pos hd, if_pos (by omega)]

theorem acc_end {s : ByteArray} {i k : Nat} {a : Int} (H : Acc s i k a) (h : ∀ hk : k < s.size, ¬ (48 ≤ (s[k].toNat : Int) ∧ (s[k].toNat : Int) ≤ 57)) :
    ∃ N : Nat, a = N ∧ Plain.rdl 0 (s.data.toList.drop i) = some (N, s.data.toList.drop k) := by
  obtain ⟨acc, rfl, hm, hr⟩ := H
  refine ⟨acc, rfl, ?_⟩
  rw [← hr]
  by_cases hk : k < s.size
  · have hd : ¬ Plain.dig s[k] = true := by have := h hk; simp [Plain.dig]; omega
    rw [drop_at s k hk, Plain.rdl, if_neg hd]
  · rw [drop_end s k hk, Plain.rdl]

/-- what the reader of digits answers at place i -/
def RdPost (s : ByteArray) (i : Nat) (e : Ending) : Prop := ∃ (n j : Int) (b : Bool), e = .returned (.tuple #[.int .u64 n, .int .i64 j, .bool b]) ∧
  ((b = false ∧ (Plain.rdl 0 (s.data.toList.drop i) = none ∨ ∃ N, Plain.rdl 0 (s.data.toList.drop i) = some (N, s.data.toList.drop i))) ∨
   (b = true ∧ ∃ N k : Nat, n = N ∧ j = k ∧ i < k ∧ k ≤ s.size ∧ Plain.rdl 0 (s.data.toList.drop i) = some (N, s.data.toList.drop k)))

theorem rdPost_over {s : ByteArray} {i : Nat} {n j : Int} (h : Plain.rdl 0 (s.data.toList.drop i) = none) : RdPost s i (.returned (.tuple #[.int .u64 n, .int .i64 j, .bool false])) :=
  ⟨n, j, false, rfl, Or.inl ⟨rfl, Or.inl h⟩⟩

theorem rdPost_end {s : ByteArray} {i k : Nat} {a : Int} (hi : i ≤ k) (hk : k ≤ s.size)
    (H : ∃ N : Nat, a = N ∧ Plain.rdl 0 (s.data.toList.drop i) = some (N, s.data.toList.drop k)) :
    RdPost s i (.returned (.tuple #[.int .u64 a, .int .i64 k, .bool (decide (i < k))])) := by
  obtain ⟨N, rfl, h⟩ := H
  by_cases h1 : i < k
  · refine ⟨N, k, true, ?_, Or.inr ⟨rfl, N, k, rfl, rfl, h1, hk, h⟩⟩
    have : decide (i < k) = true := by simp; omega
    rw [this]
  · obtain rfl : i = k := by omega
    refine ⟨N, i, false, ?_, Or.inl ⟨rfl, Or.inr ⟨N, h⟩⟩⟩
    have : decide (i < i) = false := by simp
    rw [this]

set_option maxHeartbeats 400000 in
theorem rd_any (s : ByteArray) (i : Nat) (w : World) (hs : s.size ≤ 1048576) (hi : i ≤ s.size) :
    Calls Tryd.prog 10 #[.string s, .int .i64 i] w fun e w' => RdPost s i e ∧ w' = w := by
  go_enter Tryd.func10, Tryd.ntmps10
  go_wp2
  go_loop [1, 7] (fun i' n => ∃ k : Nat, ∃ a : Int, i ≤ k ∧ k ≤ s.size ∧ i' = .int .i64 k ∧ n = .int .u64 a ∧ 0 ≤ a ∧ a ≤ 18446744073709551615 ∧ Acc s i k a) (fun i' _ => s.size - (intOf i').toNat)
  case atStart => exact ⟨i, 0, by omega, by omega, rfl, rfl, by omega, by omega, ⟨0, rfl, Nat.zero_le _, rfl⟩⟩
  case round =>
    obtain ⟨k, a, hk1, hk2, rfl, rfl, ha0, ha1, H⟩ := hrel
    by_cases hlt : k < s.size
    · by_cases h1 : 48 ≤ (s[k].toNat : Int)
      · by_cases h2 : (s[k].toNat : Int) ≤ 57
        · by_cases h3 : (18446744073709551615 - ((s[k].toNat : Int) - 48)) / 10 < a
          · have HN : Hid (Plain.rdl 0 (s.data.toList.drop i) = none) := acc_over H hlt h1 h2 h3
            go_wp2
            go_ret3
            exact ⟨rdPost_over HN.out, rfl⟩
          · have h3' : a ≤ (18446744073709551615 - ((s[k].toNat : Int) - 48)) / 10 := by omega
            have HN := acc_step H hlt h1 h2 h3'
            clear h3
            go_wp2
            go_round
            case rel => exact ⟨k + 1, _, by omega, by omega, by go_num, rfl, by omega, by omega, HN⟩
            case measure => simp [intOf]; omega
        · have HN := rdPost_end hk1 hk2 (acc_end H (fun _ h => by omega))
          go_wp2
          go_ret3
          exact ⟨HN, rfl⟩
      · have HN := rdPost_end hk1 hk2 (acc_end H (fun _ h => by omega))
        go_wp2
        go_ret3
        exact ⟨HN, rfl⟩
    · have HN := rdPost_end hk1 hk2 (acc_end H (fun h _ => by omega))
      go_wp2
      go_ret3
      exact ⟨HN, rfl⟩

theorem prefix_of (s t : ByteArray) (i : Nat) (h : i + t.size ≤ s.size) :
    ((s.extract i (i + t.size)).toList == t.toList) = t.data.toList.isPrefixOf (s.data.toList.drop i) := by
  rw [Lib.extract_toList, Lib.toList_data, Nat.add_sub_cancel_left]
  have hl : t.data.toList.length ≤ (s.data.toList.drop i).length := by
    have h1 := size_len s
    have h2 := size_len t
    rw [List.length_drop]
    omega
  have := Lib.hasPrefix_of_take (s.data.toList.drop i) t.data.toList
  unfold Lib.hasPrefix at this
  rw [← this, size_len t, decide_eq_true hl, Bool.true_and]

theorem prefix_no (s t : ByteArray) (i : Nat) (hi : i ≤ s.size) (h : ¬ i + t.size ≤ s.size) : t.data.toList.isPrefixOf (s.data.toList.drop i) = false := by
  rw [Bool.eq_false_iff]
  intro h1
  have := (List.isPrefixOf_iff_prefix.1 h1).length_le
  have h2 := size_len s
  have h3 := size_len t
  rw [List.length_drop] at this
  omega

set_option maxHeartbeats 400000 in
/-- does the word stand at place i? -/
theorem hasAt_any (s t : ByteArray) (i : Nat) (w : World) (hs : s.size ≤ 1048576) (ht : t.size ≤ 1048576) (hi : i ≤ s.size) :
    Calls Tryd.prog 11 #[.string s, .int .i64 i, .string t] w fun e w' => e = .returned (.bool (t.data.toList.isPrefixOf (s.data.toList.drop i))) ∧ w' = w := by
  by_cases h : (t.size : Int) ≤ s.size - i
  · have e := prefix_of s t i (by omega)
    rw [← e]
    clear e
    go_enter Tryd.func11, Tryd.ntmps11
    go_wp2
    go_ret
    exact ⟨rfl, rfl⟩
  · have e := prefix_no s t i hi (by omega)
    rw [e]
    clear e
    go_enter Tryd.func11, Tryd.ntmps11
    go_wp2
    go_ret
    exact ⟨rfl, rfl⟩
end Go.Proofs.Qxb6601736aDoor
