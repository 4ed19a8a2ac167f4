import Derived.Test.Qxb6603363aShelf
import Derived.Test.Qxb6603363aAuto2
namespace Go.Proofs.Qxb6603363a
open Go.RowKit

def pIdx (c : UInt8) : Int := Lib.indexByte [95, 45, 42, 47, 64] c

theorem pIdx_yes (c : UInt8) (h : Plain.punct c = true) : 0 ≤ pIdx c := by
  unfold Plain.punct at h
  unfold pIdx
  simp only [Bool.or_eq_true, beq_iff_eq] at h
  rcases h with (((rfl | rfl) | rfl) | rfl) | rfl <;> decide

theorem indexByte_no (l : List UInt8) (c : UInt8) (h : c ∉ l) : Lib.indexByte l c = -1 := by
  induction l with
  | nil => rfl
  | cons b r ih =>
    simp only [List.mem_cons, not_or] at h
    have hb : (b == c) = false := by rw [beq_eq_false_iff_ne]; exact fun e => h.1 e.symm
    rw [Lib.indexByte, hb, ih h.2]
    rfl

theorem pIdx_no (c : UInt8) (h : Plain.punct c = false) : pIdx c < 0 := by
  unfold Plain.punct at h
  simp only [Bool.or_eq_false_iff, beq_eq_false_iff_ne] at h
  obtain ⟨⟨⟨⟨h1, h2⟩, h3⟩, h4⟩, h5⟩ := h
  unfold pIdx
  rw [indexByte_no _ _ (by simp [h1, h2, h3, h4, h5])]
  decide

theorem idx_any (c : UInt8) (w : World) :
    Calls Try.prog 32 #[.string { data := #[95, 45, 42, 47, 64] }, .int .u8 (c.toNat : Int)] w fun e w' => e = .returned (.int .i64 (pIdx c)) ∧ w' = w := by
  have h := Try.strings_IndexByte { data := #[95, 45, 42, 47, 64] } (c.toNat : Int) w
  have e : ((c.toNat : Int)).toNat.toUInt8 = c := by simp
  rw [e] at h
  exact h

theorem size_len (s : ByteArray) : s.size = s.data.toList.length := by simp

theorem ok_eq (K V : ByteArray) (h : 0 < K.size) : Plain.ok K.data.toList V.data.toList =
    (decide (K.size ≤ 256) && decide (1 ≤ V.size ∧ V.size ≤ 256) && alnumB (K[0].toNat : Int) && (K.data.toList.drop 1).all Plain.keyb && V.data.toList.all Plain.valb) := by
  have h1 := drop_at K 0 h
  rw [List.drop_zero] at h1
  have h2 := size_len K
  have h3 := size_len V
  rw [alnumB_eq, h2, h3]
  generalize K.data.toList = l at *
  rw [Nat.zero_add] at h1
  generalize List.drop 1 l = r at *
  subst h1
  rfl

theorem ok_empty (K V : ByteArray) (h : ¬ 0 < K.size) : Plain.ok K.data.toList V.data.toList = false := by
  have h1 := drop_end K 0 h
  rw [List.drop_zero] at h1
  rw [h1]
  rfl

def KeyAt (K : ByteArray) (k : Nat) : Prop := (K.data.toList.drop 1).all Plain.keyb = (K.data.toList.drop k).all Plain.keyb
def ValAt (V : ByteArray) (k : Nat) : Prop := V.data.toList.all Plain.valb = (V.data.toList.drop k).all Plain.valb

theorem keyAt_step {K : ByteArray} {k : Nat} (h : k < K.size) (H : KeyAt K k) (hk : Plain.keyb K[k] = true) : KeyAt K (k + 1) := by
  unfold KeyAt at *
  rw [H, drop_at K k h, List.all_cons, hk, Bool.true_and]

theorem keyAt_bad {K : ByteArray} {k : Nat} (h : k < K.size) (H : KeyAt K k) (hk : Plain.keyb K[k] = false) : (K.data.toList.drop 1).all Plain.keyb = false := by
  unfold KeyAt at *
  rw [H, drop_at K k h, List.all_cons, hk, Bool.false_and]

theorem keyAt_end {K : ByteArray} {k : Nat} (h : ¬ k < K.size) (H : KeyAt K k) : (K.data.toList.drop 1).all Plain.keyb = true := by
  unfold KeyAt at *
  rw [H, drop_end K k h]
  rfl

theorem valAt_step {V : ByteArray} {k : Nat} (h : k < V.size) (H : ValAt V k) (hk : valI (V[k].toNat : Int) = true) : ValAt V (k + 1) := by
  unfold ValAt at *
  rw [valI_eq] at hk
  rw [H, drop_at V k h, List.all_cons, hk, Bool.true_and]

theorem valAt_bad {V : ByteArray} {k : Nat} (h : k < V.size) (H : ValAt V k) (hk : valI (V[k].toNat : Int) = false) : V.data.toList.all Plain.valb = false := by
  unfold ValAt at *
  rw [valI_eq] at hk
  rw [H, drop_at V k h, List.all_cons, hk, Bool.false_and]

theorem valAt_end {V : ByteArray} {k : Nat} (h : ¬ k < V.size) (H : ValAt V k) : V.data.toList.all Plain.valb = true := by
  unfold ValAt at *
  rw [H, drop_end V k h]
  rfl

theorem key_three (K : ByteArray) (k : Nat) (h : k < K.size) :
    (Hid (Plain.keyb K[k] = true) ∧ alnumB (K[k].toNat : Int) = true) ∨ (Hid (Plain.keyb K[k] = true) ∧ alnumB (K[k].toNat : Int) = false ∧ 0 ≤ pIdx K[k]) ∨
    (Hid (Plain.keyb K[k] = false) ∧ alnumB (K[k].toNat : Int) = false ∧ pIdx K[k] < 0) := by
  unfold Hid Plain.keyb
  rw [alnumB_eq]
  cases h1 : Plain.alnum K[k]
  · right
    cases h2 : Plain.punct K[k]
    · right; exact ⟨rfl, rfl, pIdx_no _ h2⟩
    · left; exact ⟨rfl, rfl, pIdx_yes _ h2⟩
  · left; simp

set_option maxHeartbeats 1000000 in
theorem valid_any (s K V : ByteArray) (w : World) (hsh : w.ShapedOpen Try.prog) (hs : s.size ≤ 1048576)
    (eK : (⟨(Lib.cut s.data.toList [61]).1.toArray⟩ : ByteArray) = K) (eV : (⟨(Lib.cut s.data.toList [61]).2.1.toArray⟩ : ByteArray) = V) (hK : K.size ≤ 1048576) (hV : V.size ≤ 1048576) :
    Calls Try.prog 26 #[.string s] w fun e w' => e = .returned (.bool (Plain.ok K.data.toList V.data.toList)) ∧ ∃ n, w' = w.drewN n := by
  have HSH : Hid (w.ShapedOpen Try.prog) := hsh
  have HK : Hid ((⟨(Lib.cut s.data.toList [61]).1.toArray⟩ : ByteArray) = K) := eK
  have HV : Hid ((⟨(Lib.cut s.data.toList [61]).2.1.toArray⟩ : ByteArray) = V) := eV
  clear hsh eK eV
  go_enter Try.func26, Try.ntmps26
  go_wp2_with fail
  refine (Try.strings_Cut_shaped s { data := #[61] } _ HSH.out (by omega)).mono ?_
  rintro e w' ⟨rfl, n, rfl⟩
  rw [show ({ data := #[61] } : ByteArray).data.toList = [61] from rfl, HK.out, HV.out]
  generalize (Lib.cut s.data.toList [61]).2.2 = fb
  clear HK HV
  by_cases hk0 : K.size = 0
  · have hk0' : ((K.size : Int) == 0) = true := by rw [beq_iff_eq]; omega
    have HF : Hid (Plain.ok K.data.toList V.data.toList = false) := ok_empty K V (by omega)
    clear hk0
    go_wp2
    go_ret
    exact ⟨ret_bool HF.out.symm, n, rfl⟩
  have hk0' : ((K.size : Int) == 0) = false := by rw [beq_eq_false_iff_ne]; omega
  have hkp : 0 < K.size := by omega
  clear hk0
  by_cases hk1 : 256 < (K.size : Int)
  · have HF : Hid (Plain.ok K.data.toList V.data.toList = false) := by
      show Plain.ok _ _ = _
      rw [ok_eq K V hkp, decide_eq_false (by omega)]; rfl
    go_wp2
    go_ret
    exact ⟨ret_bool HF.out.symm, n, rfl⟩
  by_cases hv0 : V.size = 0
  · have hv0' : ((V.size : Int) == 0) = true := by rw [beq_iff_eq]; omega
    have HF : Hid (Plain.ok K.data.toList V.data.toList = false) := by
      show Plain.ok _ _ = _
      rw [ok_eq K V hkp, decide_eq_false (p := 1 ≤ V.size ∧ V.size ≤ 256) (by omega), Bool.and_false]; rfl
    clear hv0
    go_wp2
    go_ret
    exact ⟨ret_bool HF.out.symm, n, rfl⟩
  have hv0' : ((V.size : Int) == 0) = false := by rw [beq_eq_false_iff_ne]; omega
  have hvp : 0 < V.size := by omega
  clear hv0
  by_cases hv1 : 256 < (V.size : Int)
  · have HF : Hid (Plain.ok K.data.toList V.data.toList = false) := by
      show Plain.ok _ _ = _
      rw [ok_eq K V hkp, decide_eq_false (p := 1 ≤ V.size ∧ V.size ≤ 256) (by omega), Bool.and_false]; rfl
    go_wp2
    go_ret
    exact ⟨ret_bool HF.out.symm, n, rfl⟩
  have HO : Hid (Plain.ok K.data.toList V.data.toList = (alnumB (K[0].toNat : Int) && (K.data.toList.drop 1).all Plain.keyb && V.data.toList.all Plain.valb)) := by
    show Plain.ok _ _ = _
    rw [ok_eq K V hkp, decide_eq_true (by omega), decide_eq_true (p := 1 ≤ V.size ∧ V.size ≤ 256) (by omega)]
    simp
  cases hal : alnumB (K[0].toNat : Int)
  · have HF : Hid (Plain.ok K.data.toList V.data.toList = false) := by
      show Plain.ok _ _ = _
      rw [HO.out, hal]; rfl
    clear HO
    go_wp2_with (go_at_call 31; refine (lower_any _ _).mono ?_; rintro e w' ⟨rfl, rfl⟩)
    go_ret
    exact ⟨ret_bool HF.out.symm, n, rfl⟩
  go_wp2_with (go_at_call 31; refine (lower_any _ _).mono ?_; rintro e w' ⟨rfl, rfl⟩)
  go_loop [6] (fun i => ∃ k : Nat, 1 ≤ k ∧ k ≤ K.size ∧ i = .int .i64 k ∧ Hid (KeyAt K k)) (fun i => K.size - (intOf i).toNat)
  case atStart => exact ⟨1, by omega, by omega, rfl, (rfl : KeyAt K 1)⟩
  case round =>
    obtain ⟨k, hk2, hk3, rfl, HA⟩ := hrel
    by_cases hlt : k < K.size
    · rcases key_three K k hlt with ⟨hk, h1⟩ | ⟨hk, h1, h2⟩ | ⟨hk, h1, h2⟩
      case inr.inr =>
        have HF : Hid (Plain.ok K.data.toList V.data.toList = false) := by
          show Plain.ok _ _ = _
          rw [HO.out, keyAt_bad hlt HA.out hk.out]; simp
        clear HO HA hk
        go_wp2_with (first | (go_at_call 31; refine (lower_any _ _).mono ?_; rintro e w' ⟨rfl, rfl⟩) | (go_at_call 32; refine (idx_any _ _).mono ?_; rintro e w' ⟨rfl, rfl⟩))
        go_ret
        exact ⟨ret_bool HF.out.symm, n, rfl⟩
      all_goals
        have HN : Hid (KeyAt K (k + 1)) := keyAt_step hlt HA.out hk.out
        clear HA hk
        go_wp2_with (first | (go_at_call 31; refine (lower_any _ _).mono ?_; rintro e w' ⟨rfl, rfl⟩) | (go_at_call 32; refine (idx_any _ _).mono ?_; rintro e w' ⟨rfl, rfl⟩))
        go_round
        case rel => exact ⟨k + 1, by omega, by omega, by go_num, HN⟩
        case measure => simp [intOf]; omega
    · have HO2 : Hid (Plain.ok K.data.toList V.data.toList = V.data.toList.all Plain.valb) := by
        show Plain.ok _ _ = _
        rw [HO.out, keyAt_end hlt HA.out, hal]; simp
      clear HO HA
      go_wp2
      go_loop [7] (fun i => ∃ j : Nat, j ≤ V.size ∧ i = .int .i64 j ∧ Hid (ValAt V j)) (fun i => V.size - (intOf i).toNat)
      case atStart => exact ⟨0, by omega, rfl, (rfl : ValAt V 0)⟩
      case round =>
        obtain ⟨j, hj, rfl, HA⟩ := hrel
        by_cases hlt2 : j < V.size
        · rcases val_cases (V[j].toNat : Int) with ⟨hk, h1⟩ | ⟨hk, h1, h2⟩ | ⟨hk, h1, h2, h3⟩ | ⟨hk, h1, h2, h3⟩
          case inr.inr.inr =>
            have HN : Hid (ValAt V (j + 1)) := valAt_step hlt2 HA.out hk.out
            clear HA hk
            go_wp2
            go_round
            case rel => exact ⟨j + 1, by omega, by go_num, HN⟩
            case measure => simp [intOf]; omega
          all_goals
            have HF : Hid (Plain.ok K.data.toList V.data.toList = false) := by
              show Plain.ok _ _ = _
              rw [HO2.out, valAt_bad hlt2 HA.out hk.out]
            clear HO2 HA hk
            go_wp2
            go_ret
            exact ⟨ret_bool HF.out.symm, n, rfl⟩
        · have HF : Hid (Plain.ok K.data.toList V.data.toList = true) := by
            show Plain.ok _ _ = _
            rw [HO2.out, valAt_end hlt2 HA.out]
          clear HO2 HA
          go_wp2
          go_ret
          exact ⟨ret_bool HF.out.symm, n, rfl⟩
end Go.Proofs.Qxb6603363a
