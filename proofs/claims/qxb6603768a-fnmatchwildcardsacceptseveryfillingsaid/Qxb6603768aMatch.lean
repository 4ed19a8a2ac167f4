import Derived.Test.Qxb6603768aShelf
import Derived.Test.Qxb6603768aCount
import Derived.Lib.Strings
namespace Go.Proofs.Qxb6603768a
open Go.RowKit

theorem size_mk (l : List UInt8) : (⟨l.toArray⟩ : ByteArray).size = l.length := by simp [ByteArray.size]

def strLen : Value → Nat
  | .string b => b.size
  | _ => 0

/-- what internal/bytealg.MaxLen holds -/
def MaxAt (w : World) : Prop := ∃ m, w.cell? ⟨0, 0, none⟩ = some (.int .i64 m)

theorem MaxAt.drewN {w : World} (h : MaxAt w) (n : Nat) : MaxAt (w.drewN n) := h

theorem cut_any (s X Y : ByteArray) (b : Bool) (hs : s.size ≤ 1048576) (h : Lib.cut s.data.toList [42] = (X.data.toList, Y.data.toList, b)) (w : World) (hm : MaxAt w) :
    Calls Try.prog 23 #[.string s, .string { data := #[42] }] w fun e w' => e = .returned (.tuple #[.string X, .string Y, .bool b]) ∧ ∃ n, w' = w.drewN n := by
  obtain ⟨m, hm⟩ := hm
  have hc := Try.strings_Cut s { data := #[42] } m w (by omega) hm
  rw [show ({ data := #[42] } : ByteArray).data.toList = [42] from rfl, h] at hc
  exact hc

theorem index_any (s X : ByteArray) (i : Nat) (hs : s.size ≤ 1048576) (h : Lib.index s.data.toList X.data.toList = i) (w : World) (hm : MaxAt w) :
    Calls Try.prog 26 #[.string s, .string X] w fun e w' => e = .returned (.int .i64 (i : Int)) ∧ w' = w := by
  obtain ⟨m, hm⟩ := hm
  have hc := Try.strings_Index s X m w (by omega) hm
  rw [h] at hc
  exact hc

theorem extract_tail (s : ByteArray) (k : Nat) : (s.extract k s.size).data.toList = s.data.toList.drop k := by
  rw [Lib.extract_data]
  apply List.take_of_length_le
  rw [List.length_drop, ← size_len]
  omega

set_option maxHeartbeats 1000000 in
theorem match_any (t s : ByteArray) (F : List UInt8) (w : World) (hm : MaxAt w) (ht : t.size ≤ 1048576) (hs : s.size ≤ 1048576)
    (hst : 42 ∈ t.data.toList) (hsub : s.data.toList = Plain.subst F t.data.toList) :
    Calls Try.prog 21 #[.string t, .string s] w fun e w' => e = .returned (.bool true) ∧ ∃ n, w' = w.drewN n := by
  rcases Plain.cut_star t.data.toList with ⟨h, _⟩ | ⟨a, b, htl, ha, hcut⟩
  · exact absurd hst h
  have hl := congrArg List.length htl
  rw [← size_len] at hl
  simp only [List.length_append, List.length_cons] at hl
  obtain ⟨A, hA⟩ : ∃ A : ByteArray, A.data.toList = a := ⟨⟨a.toArray⟩, rfl⟩
  obtain ⟨B, hB⟩ : ∃ B : ByteArray, B.data.toList = b := ⟨⟨b.toArray⟩, rfl⟩
  have hAs : A.size = a.length := by rw [size_len, hA]
  have hBs : B.size = b.length := by rw [size_len, hB]
  rw [htl] at hsub
  obtain ⟨hpre, hinv⟩ := Plain.inv_start F a b ha
  rw [← hsub] at hpre hinv
  have hAl : A.size ≤ s.size := by
    have := (List.isPrefixOf_iff_prefix.1 hpre).length_le
    rw [← size_len] at this
    omega
  rw [← hA] at hpre hinv hcut
  rw [← hB] at hinv hcut
  rw [← size_len A, ← extract_tail] at hinv
  have hBl : B.size ≤ 1048576 := by omega
  have HM : Hid (MaxAt w) := hm
  have HC : Hid (Lib.cut t.data.toList [42] = (A.data.toList, B.data.toList, true)) := hcut
  have HP : Hid (Lib.hasPrefix s.data.toList A.data.toList = true) := hpre
  have HI : Hid (Plain.Inv F (s.extract A.size s.size).data.toList B.data.toList) := hinv
  clear hm hcut hpre hinv hsub hst htl ha hl hA hB hAs hBs
  go_enter Try.func21, Try.ntmps21
  go_wp2_with fail
  refine (cut_any t A B true ht HC.out _ HM.out).mono ?_
  rintro e w1 ⟨rfl, n, rfl⟩
  clear HC
  go_wp2_with fail
  refine (Try.strings_HasPrefix s A _).mono ?_
  rintro e w2 ⟨rfl, hw2⟩
  rw [HP.out]
  subst hw2
  clear HP
  go_wp2_with fail
  go_loopw [1, 6] (fun sv rv wr => ∃ S R : ByteArray, sv = .string S ∧ rv = .string R ∧ S.size ≤ 1048576 ∧ R.size ≤ 1048576 ∧ Hid (Plain.Inv F S.data.toList R.data.toList) ∧ ∃ q, wr = w.drewN q) (fun _ rv _ => strLen rv)
  case atStart => exact ⟨_, B, rfl, rfl, by simp; omega, hBl, HI, n, rfl⟩
  case round =>
    obtain ⟨S, R, rfl, rfl, hS, hR, HJ, q, rfl⟩ := hrel
    rcases Plain.cut_star R.data.toList with ⟨hno, hc⟩ | ⟨c, d, hRl, hcn, hc⟩
    · have HE : Hid (Lib.hasSuffix S.data.toList R.data.toList = true) := Plain.inv_end F _ _ hno HJ.out
      have HC : Hid (Lib.cut R.data.toList [42] = (R.data.toList, [], false)) := hc
      clear hno hc HI
      go_wp2_with fail
      refine (cut_any R R { data := #[] } false hR HC.out _ (HM.out.drewN q)).mono ?_
      rintro e w1 ⟨rfl, n1, rfl⟩
      go_wp2_with fail
      refine (Try.strings_HasSuffix S R _ (by omega)).mono ?_
      rintro e w2 ⟨rfl, hw2⟩
      rw [HE.out]
      subst hw2
      go_wp2
      go_ret
      exact ⟨rfl, _, rfl⟩
    · have hl := congrArg List.length hRl
      rw [← size_len] at hl
      simp only [List.length_append, List.length_cons] at hl
      obtain ⟨C, hC⟩ : ∃ C : ByteArray, C.data.toList = c := ⟨⟨c.toArray⟩, rfl⟩
      obtain ⟨D, hD⟩ : ∃ D : ByteArray, D.data.toList = d := ⟨⟨d.toArray⟩, rfl⟩
      have hCs : C.size = c.length := by rw [size_len, hC]
      have hDs : D.size = d.length := by rw [size_len, hD]
      have hJ := HJ.out
      rw [hRl] at hJ
      obtain ⟨i, hi1, hi2, hi3⟩ := Plain.inv_step F _ c d hcn hJ
      rw [← size_len] at hi2
      rw [← hC] at hi1 hi3 hc
      rw [← hD] at hi3 hc
      rw [← size_len C, ← extract_tail] at hi3
      have hic : i + C.size ≤ S.size := by omega
      have hDR : D.size < R.size := by omega
      have hDl : D.size ≤ 1048576 := by omega
      have HX : Hid (Lib.index S.data.toList C.data.toList = (i : Int)) := hi1
      have HN : Hid (Plain.Inv F (S.extract (i + C.size) S.size).data.toList D.data.toList) := hi3
      have HC : Hid (Lib.cut R.data.toList [42] = (C.data.toList, D.data.toList, true)) := hc
      clear hi1 hi2 hi3 hJ hRl hcn hc hl hC hD hCs hDs HJ HI
      go_wp2_with fail
      refine (cut_any R C D true hR HC.out _ (HM.out.drewN q)).mono ?_
      rintro e w1 ⟨rfl, n1, rfl⟩
      clear HC
      go_wp2_with fail
      refine (index_any S C i hS HX.out _ ?_).mono ?_
      · exact HM.out
      rintro e w2 ⟨rfl, hw2⟩
      subst hw2
      clear HX
      go_wp2_with fail
      go_roundw
      case rel => exact ⟨_, D, rfl, rfl, by simp; omega, hDl, HN, _, rfl⟩
      case measure => simp [strLen]; omega
end Go.Proofs.Qxb6603768a
