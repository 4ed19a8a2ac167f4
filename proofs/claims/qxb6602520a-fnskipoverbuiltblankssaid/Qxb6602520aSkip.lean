import Derived.Test.Qxb6602520aLeaf
import Derived.Test.Qxb6602520aShelf
import Derived.Lib.Strings
import Derived.Deep.QuietTactic
import Derived.BigQuiet
namespace Go.Proofs.Qxb6602520a
open Go.RowKit

/-- where the lexer stands -/
def posAt (w : World) (b : Nat) : Nat := match w.cell? ⟨b, 1, none⟩ with | some v => (intOf v).toNat | none => 0

theorem posAt_eq {w : World} {b : Nat} {q : Nat} (h : w.cell? ⟨b, 1, none⟩ = some (.int .i64 q)) : posAt w b = q := by
  unfold posAt
  rw [h]
  simp [intOf]

theorem st_next {w wr : World} {b : Nat} {s : ByteArray} {q q' : Nat} {x : Int} (n : Nat) (hx : x = (q' : Int)) (h0 : wr.cell? ⟨b, 0, none⟩ = some (.string s)) (h1 : wr.cell? ⟨b, 1, none⟩ = some (.int .i64 q))
    (hf : wr.frozen? ⟨b, 1, none⟩ = false) (hb : b < wr.heap.size) (hbel : Below b w wr) :
    ((wr.drewN n).setCell ⟨b, 1, none⟩ (.int .i64 x)).cell? ⟨b, 0, none⟩ = some (.string s) ∧ ((wr.drewN n).setCell ⟨b, 1, none⟩ (.int .i64 x)).cell? ⟨b, 1, none⟩ = some (.int .i64 q') ∧
    ((wr.drewN n).setCell ⟨b, 1, none⟩ (.int .i64 x)).frozen? ⟨b, 1, none⟩ = false ∧ b < ((wr.drewN n).setCell ⟨b, 1, none⟩ (.int .i64 x)).heap.size ∧
    Below b w ((wr.drewN n).setCell ⟨b, 1, none⟩ (.int .i64 x)) := by
  subst hx
  refine ⟨?_, ?_, ?_, ?_, (below_drewN hbel n).setCell (Nat.le_refl _) _⟩
  · refine (World.cell?_setCell_other _ _ _ _ ?_).trans h0
    intro e; simp at e
  · exact World.cell?_setCell_same _ _ _ (u := .int .i64 q) h1
  · exact (World.frozen?_setCell _ _ _ _).trans hf
  · rw [World.size_setCell]; exact hb

theorem st_rel {w wr : World} {b p : Nat} {s : ByteArray} {q q' : Nat} {x : Int} (n : Nat) (hx : x = (q' : Int)) (hq' : q' ≤ s.size) (h0 : wr.cell? ⟨b, 0, none⟩ = some (.string s)) (h1 : wr.cell? ⟨b, 1, none⟩ = some (.int .i64 q))
    (hf : wr.frozen? ⟨b, 1, none⟩ = false) (hb : b < wr.heap.size) (HN : Hid (Plain.Reach (s.data.toList.drop p) (s.data.toList.drop q'))) (hbel : Below b w wr) :
    ∃ r : Nat, r ≤ s.size ∧ ((wr.drewN n).setCell ⟨b, 1, none⟩ (.int .i64 x)).cell? ⟨b, 0, none⟩ = some (.string s) ∧ ((wr.drewN n).setCell ⟨b, 1, none⟩ (.int .i64 x)).cell? ⟨b, 1, none⟩ = some (.int .i64 r) ∧
    ((wr.drewN n).setCell ⟨b, 1, none⟩ (.int .i64 x)).frozen? ⟨b, 1, none⟩ = false ∧ b < ((wr.drewN n).setCell ⟨b, 1, none⟩ (.int .i64 x)).heap.size ∧
    Hid (Plain.Reach (s.data.toList.drop p) (s.data.toList.drop r)) ∧ Below b w ((wr.drewN n).setCell ⟨b, 1, none⟩ (.int .i64 x)) := by
  obtain ⟨g0, g1, g2, g3, g4⟩ := st_next n hx h0 h1 hf hb hbel
  exact ⟨q', hq', g0, g1, g2, g3, HN, g4⟩

theorem st_meas {w wr : World} {b : Nat} {s : ByteArray} {q q' : Nat} {x : Int} (n : Nat) (hx : x = (q' : Int)) (hlt : q < q') (hq' : q' ≤ s.size) (h0 : wr.cell? ⟨b, 0, none⟩ = some (.string s)) (h1 : wr.cell? ⟨b, 1, none⟩ = some (.int .i64 q))
    (hf : wr.frozen? ⟨b, 1, none⟩ = false) (hb : b < wr.heap.size) (hbel : Below b w wr) :
    s.size - posAt ((wr.drewN n).setCell ⟨b, 1, none⟩ (.int .i64 x)) b < s.size - posAt wr b := by
  obtain ⟨_, g1, _⟩ := st_next n hx h0 h1 hf hb hbel
  rw [posAt_eq g1, posAt_eq h1]
  omega

theorem cm_cases (R : ByteArray) :
    (Hid (Plain.cm R.data.toList = false) ∧ Lib.hasPrefix R.data.toList [45, 45] = false) ∨
    (Hid (Plain.cm R.data.toList = true) ∧ Lib.hasPrefix R.data.toList [45, 45] = true ∧ ¬ 2 < R.size) ∨
    (∃ h : 2 < R.size, Hid (Plain.cm R.data.toList = true) ∧ Lib.hasPrefix R.data.toList [45, 45] = true ∧ spI (R[2].toNat : Int) = true) ∨
    (∃ h : 2 < R.size, Hid (Plain.cm R.data.toList = false) ∧ Lib.hasPrefix R.data.toList [45, 45] = true ∧ spI (R[2].toNat : Int) = false) := by
  unfold Hid Lib.hasPrefix
  rw [cm_eq R]
  by_cases h1 : 1 < R.size
  · have e0 := drop_at R 0 (by omega)
    have e1 := drop_at R 1 h1
    rw [List.drop_zero] at e0
    have ep : [45, 45].isPrefixOf R.data.toList = (((R[0].toNat : Int) == 45) && ((R[1].toNat : Int) == 45)) := by
      rw [e0, e1, beqc _ 45 45 rfl, beqc _ 45 45 rfl]
      simp only [List.isPrefixOf, Bool.and_true]
      have sw : ∀ x y : UInt8, (x == y) = (y == x) := fun x y => by rw [Bool.eq_iff_iff]; simp only [beq_iff_eq]; exact eq_comm
      rw [sw 45 R[0], sw 45 R[1]]
    rw [ep, dif_pos h1]
    cases hp : (((R[0].toNat : Int) == 45) && ((R[1].toNat : Int) == 45))
    · left; exact ⟨Bool.false_and _, rfl⟩
    · right
      by_cases h2 : 2 < R.size
      · right
        cases hs : spI (R[2].toNat : Int)
        · right; exact ⟨h2, by rw [dif_pos h2, hs]; rfl, rfl, hs⟩
        · left; exact ⟨h2, by rw [dif_pos h2, hs]; rfl, rfl, hs⟩
      · left; exact ⟨by rw [dif_neg h2]; rfl, rfl, h2⟩
  · left
    refine ⟨by rw [dif_neg h1], ?_⟩
    rw [Bool.eq_false_iff]
    intro hp
    have := (List.isPrefixOf_iff_prefix.1 hp).length_le
    rw [← size_len] at this
    simp at this
    omega

theorem step_comment {l : List UInt8} {c : UInt8} {r : List UInt8} (hl : l = c :: r) (hs : Plain.sp c = false) (hc : Plain.cm l = true) : Plain.step l = some (Plain.afterNL l) := by
  subst hl
  rw [Plain.step, if_neg (by rw [hs]; decide), if_pos hc]

theorem step_stop {l : List UInt8} {c : UInt8} {r : List UInt8} (hl : l = c :: r) (hs : Plain.sp c = false) (hc : Plain.cm l = false) : Plain.step l = none := by
  subst hl
  rw [Plain.step, if_neg (by rw [hs]; decide), if_neg (by rw [hc]; decide)]

theorem extract_tail (s : ByteArray) (k : Nat) : (s.extract k s.size).data.toList = s.data.toList.drop k := by
  rw [Lib.extract_data]
  apply List.take_of_length_le
  rw [List.length_drop, ← size_len]
  omega

theorem space_at (c : Int) (b : Bool) (h : spI c = b) (w : World) :
    Calls Try.prog 32 #[.int .u8 c] w fun e w' => e = .returned (.bool b) ∧ w' = w := by
  have := space_any c w
  rw [h] at this
  exact this

theorem reach_nl (s R : ByteArray) (p q : Nat) (c : UInt8) (r : List UInt8) (hq : q ≤ s.size) (hR : R.data.toList = s.data.toList.drop q) (hl : s.data.toList.drop q = c :: r) (hs : Plain.sp c = false) (hc : Plain.cm R.data.toList = true)
    (HR : Plain.Reach (s.data.toList.drop p) (s.data.toList.drop q)) :
    (Hid (Lib.indexByte R.data.toList 10 = -1) ∧ Hid (Plain.Reach (s.data.toList.drop p) (s.data.toList.drop s.size))) ∨
    (∃ i : Nat, Hid (Lib.indexByte R.data.toList 10 = (i : Int)) ∧ q + i + 1 ≤ s.size ∧ Hid (Plain.Reach (s.data.toList.drop p) (s.data.toList.drop (q + i + 1)))) := by
  have hst := step_comment hl hs (by rw [← hR]; exact hc)
  have h2 := Plain.Reach.tail HR hst
  unfold Hid
  rcases Plain.afterNL_index R.data.toList with ⟨h3, h4⟩ | ⟨i, h3, h4, h5⟩
  · left
    refine ⟨h3, ?_⟩
    rw [hR] at h4
    rw [h4] at h2
    rw [drop_end s s.size (by omega)]
    exact h2
  · right
    refine ⟨i, h3, ?_, ?_⟩
    · rw [hR, List.length_drop, ← size_len] at h4
      omega
    · rw [hR, List.drop_drop] at h5
      rw [h5] at h2
      exact h2

theorem nl_any (s : ByteArray) (w : World) :
    Calls Try.prog 34 #[.string s, .int .u8 10] w fun e w' => e = .returned (.int .i64 (Lib.indexByte s.data.toList 10)) ∧ w' = w := Try.strings_IndexByte s 10 w

set_option maxHeartbeats 1000000 in
theorem skip_any (s : ByteArray) (p b : Nat) (w : World) (hs : s.size ≤ 4194304) (hp : p ≤ s.size)
    (h0 : w.cell? ⟨b, 0, none⟩ = some (.string s)) (h1 : w.cell? ⟨b, 1, none⟩ = some (.int .i64 p)) (hf : w.frozen? ⟨b, 1, none⟩ = false) (hb : b < w.heap.size) :
    Calls Try.prog 28 #[.pointer (some ⟨b, 0, none⟩)] w fun e w' => e = .returned (.tuple #[]) ∧ ∃ q : Nat, q ≤ s.size ∧ w'.cell? ⟨b, 1, none⟩ = some (.int .i64 q) ∧
      Plain.Reach (s.data.toList.drop p) (s.data.toList.drop q) ∧ Plain.step (s.data.toList.drop q) = none ∧ Below b w w' := by
  go_enter Try.func28, Try.ntmps28
  go_wp2
  go_loopw [2] (fun _ wr => ∃ q : Nat, q ≤ s.size ∧ wr.cell? ⟨b, 0, none⟩ = some (.string s) ∧ wr.cell? ⟨b, 1, none⟩ = some (.int .i64 q) ∧ wr.frozen? ⟨b, 1, none⟩ = false ∧ b < wr.heap.size ∧
      Hid (Plain.Reach (s.data.toList.drop p) (s.data.toList.drop q)) ∧ Below b w wr) (fun _ wr => s.size - posAt wr b)
  case atStart => exact ⟨p, hp, h0, h1, hf, hb, Plain.Reach.refl _, Below.refl _ _⟩
  case round =>
    clear h0 h1 hf hb
    obtain ⟨q, hq, h0, h1, hf, hb, HR, hbel⟩ := hrel
    have hpos := hide (posAt_eq h1)
    by_cases hlt : q < s.size
    · have hlt' : (q : Int) < (s.size : Int) := by omega
      have HD := hide (drop_at s q hlt)
      cases hsp : spI (s[q].toNat : Int)
      · have HSP := hide hsp
        clear hsp
        go_wp2_with fail
        go_quiet (fail)
        go_wp2_with fail
        go_quiet ((go_at_call 32; refine (space_at _ false HSP.out _).mono ?_; rintro e w'' ⟨rfl, rfl⟩; exact ⟨rfl, _, rfl⟩))
        go_wp2_with fail
        go_quiet (fail)
        go_wp2_with fail
        obtain ⟨R, hR⟩ : ∃ R : ByteArray, R = s.extract q s.size := ⟨_, rfl⟩
        have eR : R.data.toList = s.data.toList.drop q := by rw [hR, extract_tail]
        have sR : R.size = s.size - q := by rw [size_len, eR, List.length_drop, ← size_len]
        rw [← hR]
        clear hR
        have hRs : R.size ≤ 4194304 := by omega
        have HER := hide eR
        have HSR := hide sR
        clear eR sR
        have HS : Hid (Plain.sp s[q] = false) := by
          show Plain.sp _ = _
          rw [← spI_eq]; exact HSP.out
        clear HSP
        rcases cm_cases R with ⟨hcm, hpre⟩ | ⟨hcm, hpre, h2⟩ | ⟨h2, hcm, hpre, hsp2⟩ | ⟨h2, hcm, hpre, hsp2⟩
        · have HST : Hid (Plain.step (s.data.toList.drop q) = none) := step_stop HD.out HS.out (by rw [← HER.out]; exact hcm.out)
          have HP := hide hpre
          clear hcm hpre
          refine (Try.strings_HasPrefix R { data := #[45, 45] } _).mono ?_
          rintro e w1 ⟨rfl, hw1⟩
          rw [show ({ data := #[45, 45] } : ByteArray).data.toList = [45, 45] from rfl, HP.out]
          subst hw1
          go_wp2_with fail
          try simp only [Exit.inBlock, Exit.then]
          refine bodyPost_ret (results_none rfl _ _ _) rfl ?_
          exact ⟨rfl, q, hq, h1, HR.out, HST.out, below_drewN hbel _⟩
        · have HP := hide hpre
          have h2' : ¬ (2 : Int) < (R.size : Int) := by omega
          have HNL := reach_nl s R p q _ _ hq HER.out HD.out HS.out hcm.out HR.out
          clear hcm hpre
          refine (Try.strings_HasPrefix R { data := #[45, 45] } _).mono ?_
          rintro e w1 ⟨rfl, hw1⟩
          rw [show ({ data := #[45, 45] } : ByteArray).data.toList = [45, 45] from rfl, HP.out]
          subst hw1
          clear HP HR HD HS HER
          go_wp2_with fail
          refine (nl_any R _).mono ?_
          rintro e w1 ⟨rfl, hw1⟩
          subst hw1
          rcases HNL with ⟨hi, HN⟩ | ⟨i, hi, hle, HN⟩
          · rw [hi.out]
            clear hi
            go_wp2_with fail
            go_roundw
            case rel => exact st_rel (q' := s.size) _ (by omega) (Nat.le_refl _) h0 h1 hf hb HN hbel
            case measure => exact st_meas (q' := s.size) _ (by omega) (by omega) (Nat.le_refl _) h0 h1 hf hb hbel
          · rw [hi.out]
            clear hi
            go_wp2_with fail
            go_roundw
            case rel => exact st_rel (q' := q + i + 1) _ (by omega) hle h0 h1 hf hb HN hbel
            case measure => exact st_meas (q' := q + i + 1) _ (by omega) (by omega) hle h0 h1 hf hb hbel
        · have HP := hide hpre
          have HS2 := hide hsp2
          have h2' : (2 : Int) < (R.size : Int) := by omega
          have HNL := reach_nl s R p q _ _ hq HER.out HD.out HS.out hcm.out HR.out
          clear hcm hpre hsp2
          refine (Try.strings_HasPrefix R { data := #[45, 45] } _).mono ?_
          rintro e w1 ⟨rfl, hw1⟩
          rw [show ({ data := #[45, 45] } : ByteArray).data.toList = [45, 45] from rfl, HP.out]
          subst hw1
          clear HP HR HD HS HER
          go_wp2_with (go_at_call 32; refine (space_at _ true HS2.out _).mono ?_; rintro e w1 ⟨rfl, rfl⟩)
          refine (nl_any R _).mono ?_
          rintro e w1 ⟨rfl, hw1⟩
          subst hw1
          rcases HNL with ⟨hi, HN⟩ | ⟨i, hi, hle, HN⟩
          · rw [hi.out]
            clear hi
            go_wp2_with fail
            go_roundw
            case rel => exact st_rel (q' := s.size) _ (by omega) (Nat.le_refl _) h0 h1 hf hb HN hbel
            case measure => exact st_meas (q' := s.size) _ (by omega) (by omega) (Nat.le_refl _) h0 h1 hf hb hbel
          · rw [hi.out]
            clear hi
            go_wp2_with fail
            go_roundw
            case rel => exact st_rel (q' := q + i + 1) _ (by omega) hle h0 h1 hf hb HN hbel
            case measure => exact st_meas (q' := q + i + 1) _ (by omega) (by omega) hle h0 h1 hf hb hbel
        · have HST : Hid (Plain.step (s.data.toList.drop q) = none) := step_stop HD.out HS.out (by rw [← HER.out]; exact hcm.out)
          have HP := hide hpre
          have HS2 := hide hsp2
          have h2' : (2 : Int) < (R.size : Int) := by omega
          clear hcm hpre hsp2
          refine (Try.strings_HasPrefix R { data := #[45, 45] } _).mono ?_
          rintro e w1 ⟨rfl, hw1⟩
          rw [show ({ data := #[45, 45] } : ByteArray).data.toList = [45, 45] from rfl, HP.out]
          subst hw1
          go_wp2_with (go_at_call 32; refine (space_at _ false HS2.out _).mono ?_; rintro e w1 ⟨rfl, rfl⟩)
          try simp only [Exit.inBlock, Exit.then]
          refine bodyPost_ret (results_none rfl _ _ _) rfl ?_
          exact ⟨rfl, q, hq, h1, HR.out, HST.out, below_drewN hbel _⟩
      · have HSP := hide hsp
        clear hsp
        have HN : Hid (Plain.Reach (s.data.toList.drop p) (s.data.toList.drop (q + 1))) := by
          refine Plain.Reach.tail HR.out ?_
          rw [HD.out, Plain.step, if_pos]
          rw [← spI_eq]; exact HSP.out
        clear HR HD
        go_wp2_with fail
        go_quiet (fail)
        go_wp2_with fail
        go_quiet ((go_at_call 32; refine (space_at _ true HSP.out _).mono ?_; rintro e w'' ⟨rfl, rfl⟩; exact ⟨rfl, _, rfl⟩))
        go_wp2_with fail
        go_roundw
        case rel => exact st_rel (q' := q + 1) _ (by omega) (by omega) h0 h1 hf hb HN hbel
        case measure => exact st_meas (q' := q + 1) _ (by omega) (by omega) (by omega) h0 h1 hf hb hbel
    · have hlt' : decide ((q : Int) < (s.size : Int)) = false := by rw [decide_eq_false_iff_not]; omega
      have HE := hide (drop_end s q hlt)
      go_wp2_with fail
      go_quiet (fail)
      go_wp2_with fail
      go_end0
      refine ⟨rfl, q, hq, h1, HR.out, ?_, below_drewN hbel _⟩
      rw [HE.out]; rfl
end Go.Proofs.Qxb6602520a
