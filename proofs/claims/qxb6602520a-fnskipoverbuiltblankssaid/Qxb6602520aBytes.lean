import Derived.Test.Qxb6602520aClone
namespace Go.Proofs.Qxb6602520a
open Go.RowKit

set_option maxHeartbeats 400000 in
theorem zzskip_any (s : ByteArray) (p : Nat) (w : World) (hs : s.size ≤ 4194304) (hp : p ≤ s.size) :
    Calls Try.prog 16 #[.string s, .int .i64 p] w fun e w' => ∃ q : Nat, e = .returned (.int .i64 q) ∧ q ≤ s.size ∧
      Plain.Reach (s.data.toList.drop p) (s.data.toList.drop q) ∧ Plain.step (s.data.toList.drop q) = none ∧ Below w.heap.size w w' := by
  go_enter Try.func16, Try.ntmps16
  go_wp2_with fail
  refine (skip_any s p w.heap.size _ hs hp (by simp [go_sem]) (by simp [go_sem]) (by simp [go_sem]) (by simp)).mono ?_
  rintro e w1 ⟨rfl, q, hq, hc, hr, hst, hb⟩
  have HR := hide hr
  have HST := hide hst
  clear hr hst
  go_wp2_with fail
  go_ret
  exact ⟨q, rfl, hq, HR.out, HST.out, ((Below.refl _ _).alloc (Nat.le_refl _) _).trans hb⟩

/-- what the weighing answers: if true, no comment is longer than 1 MiB -/
def Weighed (cs : List ByteArray) (n : Nat) (e : Ending) : Prop := ∃ b : Bool, e = .returned (.bool b) ∧ (b = true → ∀ j, j < n → (cs.getD j ByteArray.empty).size ≤ 1048576)

theorem weighed_no (cs : List ByteArray) (n : Nat) : Weighed cs n (.returned (.bool false)) := ⟨false, rfl, fun h => by cases h⟩
theorem weighed_yes {cs : List ByteArray} {n : Nat} (h : ∀ j, j < n → (cs.getD j ByteArray.empty).size ≤ 1048576) : Weighed cs n (.returned (.bool true)) := ⟨true, rfl, fun _ => h⟩

theorem view_str {w : World} {ao : Option Addr} {n k : Nat} {cs : List ByteArray} (h : View w ao n (cs.map sv)) (hk : k < n) :
    ∃ b off, ao = some ⟨b, off, none⟩ ∧ b < w.heap.size ∧ w.cell? ⟨b, off + k, none⟩ = some (.string (cs.getD k ByteArray.empty)) := by
  obtain ⟨b, off, e, hlt, hc⟩ := h.here (by omega)
  refine ⟨b, off, e, hlt, ?_⟩
  have hl := h.len
  rw [List.length_map] at hl
  rw [hc k hk, List.getElem?_map, List.getElem?_eq_getElem (by omega), List.getD_eq_getElem?_getD, List.getElem?_eq_getElem (by omega)]
  rfl

theorem view_byte {w : World} {ao : Option Addr} {n k : Nat} {l : List UInt8} (h : View w ao n (l.map bv)) (hk : k < n) :
    ∃ b off, ao = some ⟨b, off, none⟩ ∧ b < w.heap.size ∧ w.cell? ⟨b, off + k, none⟩ = some (.int .u8 ((l.getD k 0).toNat : Int)) := by
  obtain ⟨b, off, e, hlt, hc⟩ := h.here (by omega)
  refine ⟨b, off, e, hlt, ?_⟩
  have hl := h.len
  rw [List.length_map] at hl
  rw [hc k hk, List.getElem?_map, List.getElem?_eq_getElem (by omega), List.getD_eq_getElem?_getD, List.getElem?_eq_getElem (by omega)]
  rfl

set_option maxHeartbeats 1000000 in
theorem bytes_any (p r : ByteArray) (ao a1 a2 : Option Addr) (n c n1 c1 n2 c2 : Nat) (dr : Bool) (cs : List ByteArray) (w : World) (hp : p.size ≤ maxLen) (hr : r.size ≤ maxLen)
    (hn : n ≤ maxLen) (hn1 : n1 ≤ maxLen) (hn2 : n2 ≤ maxLen) (hcs : ∀ j, (cs.getD j ByteArray.empty).size ≤ maxLen) (hv : View w ao n (cs.map sv)) :
    Calls Try.prog 21 #[.string p, .slice ao n c, .slice a1 n1 c1, .slice a2 n2 c2, .string r, .bool dr] w fun e w' => Weighed cs n e ∧ w' = w := by
  unfold maxLen at *
  have HV := hide hv
  have HCS := hide hcs
  clear hv hcs
  by_cases h1 : (1048576 : Int) < p.size
  · go_enter Try.func21, Try.ntmps21
    go_wp2
    go_ret
    exact ⟨weighed_no _ _, rfl⟩
  by_cases h2 : (1048576 : Int) < n
  · go_enter Try.func21, Try.ntmps21
    go_wp2
    go_ret
    exact ⟨weighed_no _ _, rfl⟩
  by_cases h3 : (1048576 : Int) < p.size + n
  · go_enter Try.func21, Try.ntmps21
    go_wp2
    go_ret
    exact ⟨weighed_no _ _, rfl⟩
  go_enter Try.func21, Try.ntmps21
  go_wp2
  go_loop [13, 14] (fun t i => ∃ k m : Nat, k ≤ n ∧ m ≤ 1048576 ∧ i = .int .i64 k ∧ t = .int .i64 m ∧ Hid (∀ j, j < k → (cs.getD j ByteArray.empty).size ≤ 1048576)) (fun _ i => n - (intOf i).toNat)
  case atStart => exact ⟨0, p.size + n, Nat.zero_le _, by omega, rfl, by go_num, fun j hj => absurd hj (Nat.not_lt_zero _)⟩
  case round =>
    obtain ⟨k, m, hk, hm, rfl, rfl, HS⟩ := hrel
    by_cases hlt : k < n
    · obtain ⟨b, off, hx, hbl, hcell⟩ := view_str HV.out hlt
      subst hx
      have hsz := HCS.out k
      have HS2 : Hid ((cs.getD k ByteArray.empty).size ≤ 1048576 → ∀ j, j < k + 1 → (cs.getD j ByteArray.empty).size ≤ 1048576) := by
        intro h j hj
        by_cases e : j = k
        · subst e; exact h
        · exact HS.out j (by omega)
      clear HS
      generalize cs.getD k ByteArray.empty = C at *
      by_cases h4 : (1048576 : Int) < C.size
      · go_wp2
        go_ret
        exact ⟨weighed_no _ _, rfl⟩
      by_cases h5 : (1048576 : Int) < (m : Int) + C.size
      · go_wp2
        go_ret
        exact ⟨weighed_no _ _, rfl⟩
      have HS3 := hide (HS2.out (by omega))
      clear HS2
      go_wp2
      go_round
      case rel => exact ⟨k + 1, m + C.size, by omega, by omega, by go_num, by go_num, HS3⟩
      case measure => simp [intOf]; omega
    · obtain rfl : k = n := by omega
      go_wp2
      all_goals
        go_ret
        first
          | exact ⟨weighed_no _ _, rfl⟩
          | exact ⟨weighed_yes HS.out, rfl⟩
end Go.Proofs.Qxb6602520a
