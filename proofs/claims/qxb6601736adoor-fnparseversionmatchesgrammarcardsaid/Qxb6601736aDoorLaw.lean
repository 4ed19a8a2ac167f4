import Derived.Test.Qxb6601736aDoorParse
namespace Go.Proofs.Qxb6601736aDoor
open Go.RowKit

theorem size_mk (l : List UInt8) : (⟨l.toArray⟩ : ByteArray).size = l.length := by simp [ByteArray.size]

theorem cut_le (l sep : List UInt8) : (Lib.cut l sep).1.length ≤ l.length ∧ (Lib.cut l sep).2.1.length ≤ l.length := by
  unfold Lib.cut
  split
  · exact ⟨by rw [List.length_take]; omega, by rw [List.length_drop]; omega⟩
  · exact ⟨Nat.le_refl _, Nat.zero_le _⟩

theorem cut_none (l sep : List UInt8) (h : (Lib.cut l sep).2.2 = false) : Lib.cut l sep = (l, [], false) := by
  unfold Lib.cut at h ⊢
  split
  · rename_i h1; rw [if_pos h1] at h; cases h
  · rfl

theorem cut_mk (l sep : List UInt8) (h : (Lib.cut l sep).2.2 = true) :
    Lib.cut l sep = ((⟨(Lib.cut l sep).1.toArray⟩ : ByteArray).data.toList, (⟨(Lib.cut l sep).2.1.toArray⟩ : ByteArray).data.toList, true) := by
  rw [← h]

theorem parse_any (s : ByteArray) (hs : s.size ≤ 1048576) (w : World) (hv : Vars w) :
    Calls Tryd.prog 9 #[.string s] w fun e w' => e = .returned (keyOf (pv s.data.toList)) ∧ Below w.heap.size w w' := by
  cases hp : Lib.hasPrefix s.data.toList [118]
  · have e : pv s.data.toList = none := by unfold pv; rw [hp]; rfl
    rw [e]
    exact parse_no s w hp
  · have et : Lib.trimPrefix s.data.toList [118] = s.data.toList.drop 1 := by unfold Lib.trimPrefix; rw [hp]; rfl
    have e : pv s.data.toList = Plain.pvr (Lib.trimPrefix s.data.toList [118]) := by unfold pv; rw [hp, et]; rfl
    have hl : (Lib.trimPrefix s.data.toList [118]).length ≤ 1048576 := by
      rw [et, List.length_drop]
      have := size_len s
      omega
    rw [e]
    clear e et
    generalize hT : Lib.trimPrefix s.data.toList [118] = T at *
    have eN : (⟨(Lib.trimPrefix s.data.toList [118]).toArray⟩ : ByteArray) = ⟨T.toArray⟩ := by rw [hT]
    have hN : (⟨T.toArray⟩ : ByteArray).size ≤ 1048576 := by rw [size_mk]; exact hl
    cases hb : (Lib.cut T Plain.beta).2.2
    · have hc0 := cut_none _ _ hb
      cases ha : (Lib.cut T Plain.alpha).2.2
      · have hc1 := cut_none _ _ ha
        cases hM : Plain.num T
        · have e : Plain.pvr T = none := by unfold Plain.pvr; rw [hb, ha, hM]; rfl
          rw [e]
          exact parse_ga_nomajor s _ hN w hv hp eN hc0 hc1 hM
        · rename_i M
          have e : Plain.pvr T = some (0, M, 0) := by unfold Plain.pvr; rw [hb, ha, hM]; rfl
          rw [e]
          exact parse_ga_ok s _ hN w hv hp eN hc0 hc1 M hM
      · have hc := cut_mk _ _ ha
        have hcl := cut_le T Plain.alpha
        have hX : (⟨(Lib.cut T Plain.alpha).1.toArray⟩ : ByteArray).size ≤ 1048576 := by rw [size_mk]; omega
        have hY : (⟨(Lib.cut T Plain.alpha).2.1.toArray⟩ : ByteArray).size ≤ 1048576 := by rw [size_mk]; omega
        have e : Plain.pvr T = Plain.two 2 (Lib.cut T Plain.alpha) := by unfold Plain.pvr; rw [hb, ha]; rfl
        rw [e]
        cases hm : Plain.num (Lib.cut T Plain.alpha).2.1
        · have e : Plain.two 2 (Lib.cut T Plain.alpha) = none := by unfold Plain.two; rw [hm]
          rw [e]
          exact parse_alpha_nominor s _ _ _ hY hN w hv hp eN hc0 hc hm
        · rename_i m
          cases hM : Plain.num (Lib.cut T Plain.alpha).1
          · have e : Plain.two 2 (Lib.cut T Plain.alpha) = none := by unfold Plain.two; rw [hm, hM]
            rw [e]
            exact parse_alpha_nomajor s _ _ _ hX hY hN w hv hp eN hc0 hc m hm hM
          · rename_i M
            have e : Plain.two 2 (Lib.cut T Plain.alpha) = some (2, M, m) := by unfold Plain.two; rw [hm, hM]
            rw [e]
            exact parse_alpha_ok s _ _ _ hX hY hN w hv hp eN hc0 hc m hm M hM
    · have hc := cut_mk _ _ hb
      have hcl := cut_le T Plain.beta
      have hX : (⟨(Lib.cut T Plain.beta).1.toArray⟩ : ByteArray).size ≤ 1048576 := by rw [size_mk]; omega
      have hY : (⟨(Lib.cut T Plain.beta).2.1.toArray⟩ : ByteArray).size ≤ 1048576 := by rw [size_mk]; omega
      have e : Plain.pvr T = Plain.two 1 (Lib.cut T Plain.beta) := by unfold Plain.pvr; rw [hb]; rfl
      rw [e]
      cases hm : Plain.num (Lib.cut T Plain.beta).2.1
      · have e : Plain.two 1 (Lib.cut T Plain.beta) = none := by unfold Plain.two; rw [hm]
        rw [e]
        exact parse_beta_nominor s _ _ _ hY hN w hv hp eN hc hm
      · rename_i m
        cases hM : Plain.num (Lib.cut T Plain.beta).1
        · have e : Plain.two 1 (Lib.cut T Plain.beta) = none := by unfold Plain.two; rw [hm, hM]
          rw [e]
          exact parse_beta_nomajor s _ _ _ hX hY hN w hv hp eN hc m hm hM
        · rename_i M
          have e : Plain.two 1 (Lib.cut T Plain.beta) = some (1, M, m) := by unfold Plain.two; rw [hm, hM]
          rw [e]
          exact parse_beta_ok s _ _ _ hX hY hN w hv hp eN hc m hm M hM

theorem md_pv (v : List UInt8) : pv v = md v := by
  unfold pv md
  cases v with
  | nil => rfl
  | cons c r =>
    have e : Lib.hasPrefix (c :: r) [118] = (c == 118) := by
      unfold Lib.hasPrefix
      simp only [List.isPrefixOf, Bool.and_true]
      rw [Bool.eq_iff_iff]
      simp only [beq_iff_eq]
      exact eq_comm
    rw [e, List.drop_one, List.tail_cons, Plain.agree]

set_option maxHeartbeats 400000 in
theorem zz_one (s : ByteArray) (w : World) (a : Int) (b c : Int) (ok : Bool)
    (h : Calls Tryd.prog 9 #[.string s] w fun e w' => e = .returned (.tuple #[.agg #[.int .i64 a, .int .u64 b, .int .u64 c], .bool ok]) ∧ Below w.heap.size w w') :
    Calls Tryd.prog 6 #[.string s] w fun e w' => e = .returned (.tuple #[.int .i64 a, .int .u64 b, .int .u64 c, .bool ok]) ∧ Below w.heap.size w w' := by
  have HC : Hid (Calls Tryd.prog 9 #[.string s] w fun e w' => e = .returned (.tuple #[.agg #[.int .i64 a, .int .u64 b, .int .u64 c], .bool ok]) ∧ Below w.heap.size w w') := h
  clear h
  go_enter Tryd.func6, Tryd.ntmps6
  go_wp2_with fail
  refine HC.out.mono ?_
  rintro e w1 ⟨rfl, hb⟩
  clear HC
  go_wp2_with fail
  go_quiet (fail)
  go_wp2
  refine bodyPost_ret (results_tmp4 rfl _ _ _) rfl ?_
  exact ⟨rfl, below_drewN (hb.alloc hb.size _) _⟩

theorem zz_any (s : ByteArray) (hs : s.size ≤ 1048576) (w : World) (hv : Vars w) :
    Calls Tryd.prog 6 #[.string s] w fun e w' => e = .returned (four (md s.data.toList)) ∧ Below w.heap.size w w' := by
  have h := parse_any s hs w hv
  rw [md_pv] at h
  cases hx : md s.data.toList with
  | none => rw [hx] at h; exact zz_one s w 0 0 0 false h
  | some x =>
    obtain ⟨st, M, m⟩ := x
    rw [hx] at h
    exact zz_one s w st M m true h

set_option maxHeartbeats 400000 in
theorem law_walk (s : ByteArray) (hs : s.size ≤ maxLen) (w : World) (hv : Vars w) :
    Calls Tryd.prog 3 #[.string s] w fun e w' => e = .returned (.bool true) ∧ Below w.heap.size w w' := by
  have HV : Hid (Vars w) := hv
  clear hv
  by_cases h : s.size ≤ 1048576
  · have hd : decide (s.size ≤ 1048576) = true := by simpa using h
    cases hx : md s.data.toList with
    | none =>
      go_enter Tryd.func3, Tryd.ntmps3
      go_wp2_with (go_at_call 5; refine (bytes_any _ _ hs).mono ?_; rintro e w' ⟨rfl, rfl⟩)
      refine (zz_any _ h _ HV.out).mono ?_
      rintro e w1 ⟨rfl, hb⟩
      rw [hx, four_none]
      go_wp2_with fail
      refine (model_any _ _ h).mono ?_
      rintro e w2 ⟨rfl, hw2⟩
      rw [hx, four_none]
      subst hw2
      go_wp2
      go_ret
      exact ⟨rfl, hb⟩
    | some x =>
      obtain ⟨st, M, m⟩ := x
      go_enter Tryd.func3, Tryd.ntmps3
      go_wp2_with (go_at_call 5; refine (bytes_any _ _ hs).mono ?_; rintro e w' ⟨rfl, rfl⟩)
      refine (zz_any _ h _ HV.out).mono ?_
      rintro e w1 ⟨rfl, hb⟩
      rw [hx, four_some]
      go_wp2_with fail
      refine (model_any _ _ h).mono ?_
      rintro e w2 ⟨rfl, hw2⟩
      rw [hx, four_some]
      subst hw2
      go_wp2
      go_ret
      exact ⟨rfl, hb⟩
  · have hd : decide (s.size ≤ 1048576) = false := by simpa using h
    go_enter Tryd.func3, Tryd.ntmps3
    go_wp2_with (go_at_call 5; refine (bytes_any _ _ hs).mono ?_; rintro e w' ⟨rfl, rfl⟩)
    go_ret
    exact ⟨rfl, Below.refl _ _⟩
end Go.Proofs.Qxb6601736aDoor
