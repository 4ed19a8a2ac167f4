import Derived.Test.Qxb6601736aDoorModel
namespace Go.Proofs.Qxb6601736aDoor
open Go.RowKit

theorem results_tmp4 {fn : Func} {t u v x : Tmp} (h : fn.results = #[.tmp t, .tmp u, .tmp v, .tmp x]) (tmps : Array Value) (P : Program) (w : World) :
    (results fn tmps).run P w = .ok (.tuple #[tmps.getD t undef, tmps.getD u undef, tmps.getD v undef, tmps.getD x undef]) w := by
  simp [results, h]

/-- the four results: stage, major, minor, ok -/
def four (x : Option (Nat × Nat × Nat)) : Value :=
  match x with
  | none => .tuple #[.int .i64 0, .int .u64 0, .int .u64 0, .bool false]
  | some (s, M, m) => .tuple #[.int .i64 s, .int .u64 M, .int .u64 m, .bool true]

def md (v : List UInt8) : Option (Nat × Nat × Nat) :=
  match v with
  | [] => none
  | c :: r => if c == 118 then Plain.mdr r else none

theorem rd_at (s : ByteArray) (x : Int) (i : Nat) (hx : x = (i : Int)) (w : World) (hs : s.size ≤ 1048576) (hi : i ≤ s.size) :
    Calls Tryd.prog 10 #[.string s, .int .i64 x] w fun e w' => RdPost s i e ∧ w' = w := by
  subst hx; exact rd_any s i w hs hi

theorem beqc (c d : UInt8) (n : Int) (h : (d.toNat : Int) = n) : ((c.toNat : Int) == n) = (c == d) := by
  subst h
  rw [Bool.eq_iff_iff]
  simp only [beq_iff_eq]
  constructor
  · intro h; apply UInt8.toNat_inj.1; omega
  · rintro rfl; rfl

def sBeta : ByteArray := { data := #[98, 101, 116, 97] }
def sAlpha : ByteArray := { data := #[97, 108, 112, 104, 97] }

theorem len_drop (s : ByteArray) (k : Nat) : (s.data.toList.drop k).length = s.size - k := by rw [List.length_drop, ← size_len]

theorem mdr_bad (s : ByteArray) (h : Plain.rdl 0 (s.data.toList.drop 1) = none ∨ ∃ N, Plain.rdl 0 (s.data.toList.drop 1) = some (N, s.data.toList.drop 1)) :
    Plain.mdr (s.data.toList.drop 1) = none := by
  unfold Plain.mdr
  rcases h with h | ⟨N, h⟩
  · rw [h]
  · rw [h]
    show (if _ then _ else _) = _
    rw [if_pos (Nat.le_refl _)]

theorem mdr_some (s : ByteArray) (N k : Nat) (h1 : 1 < k) (hk : k ≤ s.size) (h : Plain.rdl 0 (s.data.toList.drop 1) = some (N, s.data.toList.drop k)) :
    Plain.mdr (s.data.toList.drop 1) = (if s.data.toList.drop k = [] then some (0, N, 0)
      else if Plain.beta.isPrefixOf (s.data.toList.drop k) = true then Plain.fin 1 N (s.data.toList.drop (k + 4))
      else if Plain.alpha.isPrefixOf (s.data.toList.drop k) = true then Plain.fin 2 N (s.data.toList.drop (k + 5)) else none) := by
  unfold Plain.mdr
  rw [h]
  have e1 : (s.data.toList.drop k).drop 4 = s.data.toList.drop (k + 4) := by rw [List.drop_drop]
  have e2 : (s.data.toList.drop k).drop 5 = s.data.toList.drop (k + 5) := by rw [List.drop_drop]
  show (if _ then _ else _) = _
  rw [if_neg (by rw [len_drop, len_drop]; omega), e1, e2]

theorem mdr_ga (s : ByteArray) (N k : Nat) (h1 : 1 < k) (hk : k = s.size) (h : Plain.rdl 0 (s.data.toList.drop 1) = some (N, s.data.toList.drop k)) :
    Plain.mdr (s.data.toList.drop 1) = some (0, N, 0) := by
  rw [mdr_some s N k h1 (by omega) h, if_pos (drop_end s k (by omega))]

theorem drop_ne (s : ByteArray) (k : Nat) (h : k < s.size) : ¬ s.data.toList.drop k = [] := by
  rw [drop_at s k h]; simp

theorem mdr_beta (s : ByteArray) (N k : Nat) (h1 : 1 < k) (hk : k < s.size) (h : Plain.rdl 0 (s.data.toList.drop 1) = some (N, s.data.toList.drop k))
    (hb : Plain.beta.isPrefixOf (s.data.toList.drop k) = true) :
    Plain.mdr (s.data.toList.drop 1) = Plain.fin 1 N (s.data.toList.drop (k + 4)) := by
  rw [mdr_some s N k h1 (by omega) h, if_neg (drop_ne s k hk), if_pos hb]

theorem mdr_alpha (s : ByteArray) (N k : Nat) (h1 : 1 < k) (hk : k < s.size) (h : Plain.rdl 0 (s.data.toList.drop 1) = some (N, s.data.toList.drop k))
    (hb : Plain.beta.isPrefixOf (s.data.toList.drop k) = false) (ha : Plain.alpha.isPrefixOf (s.data.toList.drop k) = true) :
    Plain.mdr (s.data.toList.drop 1) = Plain.fin 2 N (s.data.toList.drop (k + 5)) := by
  rw [mdr_some s N k h1 (by omega) h, if_neg (drop_ne s k hk), if_neg (by rw [hb]; decide), if_pos ha]

theorem mdr_other (s : ByteArray) (N k : Nat) (h1 : 1 < k) (hk : k < s.size) (h : Plain.rdl 0 (s.data.toList.drop 1) = some (N, s.data.toList.drop k))
    (hb : Plain.beta.isPrefixOf (s.data.toList.drop k) = false) (ha : Plain.alpha.isPrefixOf (s.data.toList.drop k) = false) :
    Plain.mdr (s.data.toList.drop 1) = none := by
  rw [mdr_some s N k h1 (by omega) h, if_neg (drop_ne s k hk), if_neg (by rw [hb]; decide), if_neg (by rw [ha]; decide)]

theorem fin_bad (s : ByteArray) (st M j : Nat) (h : Plain.rdl 0 (s.data.toList.drop j) = none ∨ ∃ N, Plain.rdl 0 (s.data.toList.drop j) = some (N, s.data.toList.drop j)) :
    Plain.fin st M (s.data.toList.drop j) = none := by
  unfold Plain.fin
  rcases h with h | ⟨N, h⟩
  · rw [h]
  · rw [h]
    show (if _ then _ else _) = _
    rw [if_pos (Or.inl (Nat.le_refl _))]

theorem fin_ok (s : ByteArray) (st M m j k : Nat) (h1 : j < k) (hk : k = s.size) (h : Plain.rdl 0 (s.data.toList.drop j) = some (m, s.data.toList.drop k)) :
    Plain.fin st M (s.data.toList.drop j) = some (st, M, m) := by
  unfold Plain.fin
  rw [h]
  show (if _ then _ else _) = _
  rw [if_neg]
  rintro (h2 | h2)
  · rw [len_drop, len_drop] at h2; omega
  · exact h2 (drop_end s k (by omega))

theorem fin_more (s : ByteArray) (st M m j k : Nat) (hk : k < s.size) (h : Plain.rdl 0 (s.data.toList.drop j) = some (m, s.data.toList.drop k)) :
    Plain.fin st M (s.data.toList.drop j) = none := by
  unfold Plain.fin
  rw [h]
  show (if _ then _ else _) = _
  rw [if_pos (Or.inr (drop_ne s k hk))]

theorem room_of (s : ByteArray) (k : Nat) (p : List UInt8) (hk : k ≤ s.size) (h : p.isPrefixOf (s.data.toList.drop k) = true) : k + p.length ≤ s.size := by
  have := (List.isPrefixOf_iff_prefix.1 h).length_le
  rw [len_drop] at this
  omega

theorem four_none : four none = .tuple #[.int .i64 0, .int .u64 0, .int .u64 0, .bool false] := rfl
theorem four_some (s M m : Nat) : four (some (s, M, m)) = .tuple #[.int .i64 s, .int .u64 M, .int .u64 m, .bool true] := rfl

set_option maxHeartbeats 1000000 in
theorem model_any (s : ByteArray) (w : World) (hs : s.size ≤ 1048576) :
    Calls Tryd.prog 7 #[.string s] w fun e w' => e = .returned (four (md s.data.toList)) ∧ w' = w := by
  by_cases h0 : s.size = 0
  · have he : s.data.toList = [] := by have := size_len s; exact List.eq_nil_of_length_eq_zero (by omega)
    have HF : Hid (four (md s.data.toList) = .tuple #[.int .i64 0, .int .u64 0, .int .u64 0, .bool false]) := by show four _ = _; rw [he]; rfl
    have h0' : ((s.size : Int) == 0) = true := by rw [beq_iff_eq]; omega
    clear he h0
    go_enter Tryd.func7, Tryd.ntmps7
    go_wp2
    refine bodyPost_ret (results_tmp4 rfl _ _ _) rfl ?_
    exact ⟨by rw [HF.out]; rfl, rfl⟩
  · have h0' : ((s.size : Int) == 0) = false := by rw [beq_eq_false_iff_ne]; omega
    have hlt : 0 < s.size := by omega
    have HD : Hid (s.data.toList = s[0] :: s.data.toList.drop 1) := drop_at s 0 hlt
    clear h0
    cases hv : ((s[0].toNat : Int) != 118)
    · have HM : Hid (md s.data.toList = Plain.mdr (s.data.toList.drop 1)) := by
        have h1 : (s[0] == 118) = true := by rw [← beqc s[0] 118 118 rfl]; simpa [bne] using hv
        have h2 := HD.out
        show md _ = _
        rw [h2, md, h1]
        rfl
      clear HD
      go_enter Tryd.func7, Tryd.ntmps7
      go_wp2_with fail
      refine (rd_at s _ 1 rfl _ hs (by omega)).mono ?_
      rintro e w' ⟨⟨n, j, b, rfl, hc⟩, rfl⟩
      rcases hc with ⟨rfl, hc⟩ | ⟨rfl, N, k, rfl, rfl, hk1, hk2, hr⟩
      · have HF : Hid (four (md s.data.toList) = .tuple #[.int .i64 0, .int .u64 0, .int .u64 0, .bool false]) := by show four _ = _; rw [HM.out, mdr_bad s hc]; rfl
        clear hc HM
        go_wp2
        refine bodyPost_ret (results_tmp4 rfl _ _ _) rfl ?_
        exact ⟨by rw [HF.out]; rfl, rfl⟩
      · have HR : Hid (Plain.rdl 0 (s.data.toList.drop 1) = some (N, s.data.toList.drop k)) := hr
        clear hr
        by_cases hk : k = s.size
        · have hk' : ((k : Int) == (s.size : Int)) = true := by rw [beq_iff_eq]; omega
          have HF : Hid (four (md s.data.toList) = .tuple #[.int .i64 (0 : Nat), .int .u64 N, .int .u64 (0 : Nat), .bool true]) := by show four _ = _; rw [HM.out, mdr_ga s N k hk1 hk HR.out]; rfl
          clear hk HM HR
          go_wp2
          refine bodyPost_ret (results_tmp4 rfl _ _ _) rfl ?_
          exact ⟨by rw [HF.out]; rfl, rfl⟩
        · have hk' : ((k : Int) == (s.size : Int)) = false := by rw [beq_eq_false_iff_ne]; omega
          have hk3 : k < s.size := by omega
          clear hk
          cases hb : Plain.beta.isPrefixOf (s.data.toList.drop k)
          · cases ha : Plain.alpha.isPrefixOf (s.data.toList.drop k)
            · have HF : Hid (four (md s.data.toList) = .tuple #[.int .i64 0, .int .u64 0, .int .u64 0, .bool false]) := by show four _ = _; rw [HM.out, mdr_other s N k hk1 hk3 HR.out hb ha]; rfl
              go_wp2_with fail
              refine (hasAt_any s { data := #[98, 101, 116, 97] } k _ hs (by decide) hk2).mono ?_
              rintro e w' ⟨rfl, rfl⟩
              rw [show (({ data := #[98, 101, 116, 97] } : ByteArray).data.toList.isPrefixOf (s.data.toList.drop k)) = false from hb]
              go_wp2_with fail
              refine (hasAt_any s { data := #[97, 108, 112, 104, 97] } k _ hs (by decide) hk2).mono ?_
              rintro e w' ⟨rfl, rfl⟩
              rw [show (({ data := #[97, 108, 112, 104, 97] } : ByteArray).data.toList.isPrefixOf (s.data.toList.drop k)) = false from ha]
              go_wp2
              refine bodyPost_ret (results_tmp4 rfl _ _ _) rfl ?_
              exact ⟨by rw [HF.out]; rfl, rfl⟩
            · have HA : Hid (md s.data.toList = Plain.fin 2 N (s.data.toList.drop (k + 5))) := by show md _ = _; rw [HM.out, mdr_alpha s N k hk1 hk3 HR.out hb ha]
              have hroom : k + 5 ≤ s.size := room_of s k _ hk2 ha
              go_wp2_with fail
              refine (hasAt_any s { data := #[98, 101, 116, 97] } k _ hs (by decide) hk2).mono ?_
              rintro e w' ⟨rfl, rfl⟩
              rw [show (({ data := #[98, 101, 116, 97] } : ByteArray).data.toList.isPrefixOf (s.data.toList.drop k)) = false from hb]
              go_wp2_with fail
              refine (hasAt_any s { data := #[97, 108, 112, 104, 97] } k _ hs (by decide) hk2).mono ?_
              rintro e w' ⟨rfl, rfl⟩
              rw [show (({ data := #[97, 108, 112, 104, 97] } : ByteArray).data.toList.isPrefixOf (s.data.toList.drop k)) = true from ha]
              go_wp2_with fail
              refine (rd_at s _ (k + 5) (by omega) _ hs hroom).mono ?_
              rintro e w' ⟨⟨n, j, b, rfl, hc⟩, rfl⟩
              rcases hc with ⟨rfl, hc⟩ | ⟨rfl, m, k2, rfl, rfl, hk21, hk22, hr2⟩
              · have HF : Hid (four (md s.data.toList) = .tuple #[.int .i64 0, .int .u64 0, .int .u64 0, .bool false]) := by show four _ = _; rw [HA.out, fin_bad s _ _ _ hc]; rfl
                clear hc HM HA
                go_wp2
                refine bodyPost_ret (results_tmp4 rfl _ _ _) rfl ?_
                exact ⟨by rw [HF.out]; rfl, rfl⟩
              · by_cases hke : k2 = s.size
                · have HF : Hid (four (md s.data.toList) = .tuple #[.int .i64 (2 : Nat), .int .u64 N, .int .u64 m, .bool true]) := by show four _ = _; rw [HA.out, fin_ok s _ _ m _ k2 hk21 hke hr2]; rfl
                  have hk'' : ((k2 : Int) != (s.size : Int)) = false := by rw [bne_eq_false_iff_eq]; omega
                  clear hr2 hke HM HA
                  go_wp2
                  refine bodyPost_ret (results_tmp4 rfl _ _ _) rfl ?_
                  exact ⟨by rw [HF.out]; rfl, rfl⟩
                · have HF : Hid (four (md s.data.toList) = .tuple #[.int .i64 0, .int .u64 0, .int .u64 0, .bool false]) := by show four _ = _; rw [HA.out, fin_more s _ _ m _ k2 (by omega) hr2]; rfl
                  have hk'' : ((k2 : Int) != (s.size : Int)) = true := by rw [bne_iff_ne]; omega
                  clear hr2 hke HM HA
                  go_wp2
                  refine bodyPost_ret (results_tmp4 rfl _ _ _) rfl ?_
                  exact ⟨by rw [HF.out]; rfl, rfl⟩
          · have HA : Hid (md s.data.toList = Plain.fin 1 N (s.data.toList.drop (k + 4))) := by show md _ = _; rw [HM.out, mdr_beta s N k hk1 hk3 HR.out hb]
            have hroom : k + 4 ≤ s.size := room_of s k _ hk2 hb
            go_wp2_with fail
            refine (hasAt_any s { data := #[98, 101, 116, 97] } k _ hs (by decide) hk2).mono ?_
            rintro e w' ⟨rfl, rfl⟩
            rw [show (({ data := #[98, 101, 116, 97] } : ByteArray).data.toList.isPrefixOf (s.data.toList.drop k)) = true from hb]
            go_wp2_with fail
            refine (rd_at s _ (k + 4) (by omega) _ hs hroom).mono ?_
            rintro e w' ⟨⟨n, j, b, rfl, hc⟩, rfl⟩
            rcases hc with ⟨rfl, hc⟩ | ⟨rfl, m, k2, rfl, rfl, hk21, hk22, hr2⟩
            · have HF : Hid (four (md s.data.toList) = .tuple #[.int .i64 0, .int .u64 0, .int .u64 0, .bool false]) := by show four _ = _; rw [HA.out, fin_bad s _ _ _ hc]; rfl
              clear hc HM HA
              go_wp2
              refine bodyPost_ret (results_tmp4 rfl _ _ _) rfl ?_
              exact ⟨by rw [HF.out]; rfl, rfl⟩
            · by_cases hke : k2 = s.size
              · have HF : Hid (four (md s.data.toList) = .tuple #[.int .i64 (1 : Nat), .int .u64 N, .int .u64 m, .bool true]) := by show four _ = _; rw [HA.out, fin_ok s _ _ m _ k2 hk21 hke hr2]; rfl
                have hk'' : ((k2 : Int) != (s.size : Int)) = false := by rw [bne_eq_false_iff_eq]; omega
                clear hr2 hke HM HA
                go_wp2
                refine bodyPost_ret (results_tmp4 rfl _ _ _) rfl ?_
                exact ⟨by rw [HF.out]; rfl, rfl⟩
              · have HF : Hid (four (md s.data.toList) = .tuple #[.int .i64 0, .int .u64 0, .int .u64 0, .bool false]) := by show four _ = _; rw [HA.out, fin_more s _ _ m _ k2 (by omega) hr2]; rfl
                have hk'' : ((k2 : Int) != (s.size : Int)) = true := by rw [bne_iff_ne]; omega
                clear hr2 hke HM HA
                go_wp2
                refine bodyPost_ret (results_tmp4 rfl _ _ _) rfl ?_
                exact ⟨by rw [HF.out]; rfl, rfl⟩
    · have HF : Hid (four (md s.data.toList) = .tuple #[.int .i64 0, .int .u64 0, .int .u64 0, .bool false]) := by
        have h1 : (s[0] == 118) = false := by rw [← beqc s[0] 118 118 rfl]; simpa [bne] using hv
        have h2 := HD.out
        show four (md _) = _
        rw [h2, md, h1]
        rfl
      clear HD
      go_enter Tryd.func7, Tryd.ntmps7
      go_wp2
      refine bodyPost_ret (results_tmp4 rfl _ _ _) rfl ?_
      exact ⟨by rw [HF.out]; rfl, rfl⟩
end Go.Proofs.Qxb6601736aDoor
