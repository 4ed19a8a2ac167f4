import Derived.Test.Qxb6603768aCount
import Derived.Lib.BufferRead
namespace Go.Proofs.Qxb6603768a
open Go.RowKit

theorem Try.info5 : (Try.prog.info? 5).map (fun i => (i.zero, i.size, i.bytes)) = some (some (.int .u8 0), 1, 1) := by kernel_rfl

theorem hide {p : Prop} (h : p) : Hid p := h

/-- a byte as a value -/
def bv (c : UInt8) : Value := .int .u8 (c.toNat : Int)

/-- the slice value v of the call's own holds just the bytes l -/
def Own (B : Nat) (w : World) (v : Value) (l : List UInt8) : Prop := w.ownsRow B 5 1 v l.length (l.map bv)

theorem own_snoc {B : Nat} {w : World} {v : Value} {l : List UInt8} {c : UInt8} (h : w.ownsRow B 5 1 v (l.length + 1) (l.map bv ++ [.int .u8 (c.toNat : Int)])) : Own B w v (l ++ [c]) := by
  unfold Own
  rw [List.length_append, List.map_append]
  exact h

theorem new_one {w : World} (v : Value) (T : TypeId) : ∀ j u, [v][j]? = some u → (w.alloc (.cells #[v] T)).cell? ((⟨w.heap.size, 0, none⟩ : Addr).add j) = some u := by
  intro j u hj
  match j, hj with
  | 0, hj => simp at hj; subst hj; simp [Addr.add]

theorem one_cell (k : IntKind) (n : Int) : ∀ u ∈ [Value.int k n], u.oneCell' = true := by
  intro u hu; simp at hu; subst hu; rfl

theorem own_block {B : Nat} {w : World} {v : Value} {l : List UInt8} (h : Own B w v l) : ∀ k, v.ownBlock = some k → B ≤ k := fun k hk => (World.ownsRow.lt h k hk).1

theorem own_string {B : Nat} {w : World} {v : Value} {l : List UInt8} (h : Own B w v l) : (convert 24 9 v).run Try.prog w = .ok (.string ⟨l.toArray⟩) w := by
  have h0 := h
  unfold Own at h0
  rcases h0.2 with ⟨rfl, hl⟩ | ⟨g, cap, cur, rfl, _⟩
  · obtain rfl : l = [] := List.eq_nil_of_length_eq_zero hl
    exact Lib.run_convert_nil_bytes w 24 9 5 0 Try.underlying24 Try.underlying5 Try.underlying9
  · refine run_convert_bytes_back w 24 9 5 ⟨g, 0, none⟩ cap l Try.underlying24 Try.underlying5 Try.underlying9 ?_
    intro j hj
    have hc := World.ownsRow.cellAt h0 j (by omega)
    have e : (⟨g, 0, none⟩ : Addr).add j = ⟨g, j, none⟩ := by cases j <;> simp [Addr.add]
    rw [e, hc, List.getElem?_map, List.getElem?_eq_getElem hj]
    rfl

theorem sub_len (F T : List UInt8) (n : Nat) (hn : Plain.stars T = n) (h : T.length - n + n * F.length ≤ 1048576) : (Plain.subst F T).length ≤ 1048576 := by
  have h1 := Plain.subst_length F T
  have h2 := Plain.stars_le T
  rw [hn] at h1 h2
  omega

theorem sub_take (F T : List UInt8) (k : Nat) : (Plain.subst F (T.take k)).length ≤ (Plain.subst F T).length := by
  have h : Plain.subst F T = Plain.subst F (T.take k) ++ Plain.subst F (T.drop k) := by rw [← Plain.subst_append, List.take_append_drop]
  rw [h, List.length_append]
  omega

theorem sub_star (F : List UInt8) (t : ByteArray) (k : Nat) (h : k < t.size) (hc : ((t[k].toNat : Int) == 42) = true) :
    Plain.subst F (t.data.toList.take (k + 1)) = Plain.subst F (t.data.toList.take k) ++ F := by
  rw [beqc _ 42 42 rfl] at hc
  rw [take_snoc t k h, Plain.subst_append]
  congr 1
  rw [beq_iff_eq] at hc
  rw [hc, Plain.subst_star]
  simp [Plain.subst]

theorem sub_other (F : List UInt8) (t : ByteArray) (k : Nat) (h : k < t.size) (hc : ((t[k].toNat : Int) == 42) = false) :
    Plain.subst F (t.data.toList.take (k + 1)) = Plain.subst F (t.data.toList.take k) ++ [t[k]] := by
  rw [beqc _ 42 42 rfl] at hc
  rw [take_snoc t k h, Plain.subst_append]
  congr 1
  rw [Plain.subst, hc]
  simp [Plain.subst]

set_option maxHeartbeats 1000000 in
theorem law_walk (t f : ByteArray) (w : World) (ht : t.size ≤ maxLen) (hf : f.size ≤ maxLen)
    (hM : ∀ (s : ByteArray) (w' : World), Below w.heap.size w w' → s.data.toList = Plain.subst f.data.toList t.data.toList → 42 ∈ t.data.toList → t.size ≤ 1048576 → s.size ≤ 1048576 →
      Calls Try.prog 9 #[.string t, .string s] w' fun e w'' => e = .returned (.bool true) ∧ Below w.heap.size w w'') :
    Calls Try.prog 4 #[.string t, .string f] w fun e w' => e = .returned (.bool true) ∧ Below w.heap.size w w' := by
  have HM := hide hM
  clear hM
  obtain ⟨i0, hi, hz0, hz1, hz2⟩ := info_parts Try.info5
  by_cases h1 : t.size + f.size ≤ 1048576
  · have hd : decide (t.size + f.size ≤ 1048576) = true := by simpa using h1
    by_cases h0 : Plain.stars t.data.toList = 0
    · go_enter Try.func4, Try.ntmps4
      go_wp2_with (first | (go_at_call 11; refine (bytes_any _ _ _ ht hf).mono ?_; rintro e w' ⟨rfl, rfl⟩) | (go_at_call 8; refine (stars_any _ _ (by omega)).mono ?_; rintro e w' ⟨rfl, rfl⟩))
      go_ret
      exact ⟨rfl, Below.refl _ _⟩
    · have hle := Plain.stars_le t.data.toList
      have hsl := size_len t
      have hfl := size_len f
      have hst : 42 ∈ t.data.toList := Classical.byContradiction fun h => h0 ((Plain.stars_zero _).2 h)
      have HST := hide hst
      clear hst
      generalize hn : Plain.stars t.data.toList = n at *
      have hn0 : ((n : Int) == 0) = false := by rw [beq_eq_false_iff_ne]; omega
      have hnt : n ≤ t.size := by omega
      by_cases hq : 0 < f.size ∧ (1048576 - ((t.size : Int) - n)) / (f.size : Int) < n
      · obtain ⟨hf0, hq⟩ := hq
        have HN := hide hn
        clear hn hle hsl hfl
        go_enter Try.func4, Try.ntmps4
        go_wp2_with fail
        refine (bytes_any _ _ _ ht hf).mono ?_
        rintro e w' ⟨rfl, rfl⟩
        rw [hd]
        go_wp2_with fail
        refine (stars_any _ _ (by omega)).mono ?_
        rintro e w' ⟨rfl, rfl⟩
        rw [HN.out]
        go_wp2_with fail
        go_ret
        exact ⟨rfl, Below.refl _ _⟩
      · have hmul : (n : Int) * (f.size : Int) ≤ 1048576 - ((t.size : Int) - n) := by
          by_cases hf0 : 0 < f.size
          · have h2 : (n : Int) ≤ (1048576 - ((t.size : Int) - n)) / (f.size : Int) := by
              have := not_and.1 hq hf0
              omega
            exact (Int.le_ediv_iff_mul_le (by omega)).1 h2
          · have : f.size = 0 := by omega
            rw [this]
            simp
            omega
        have hmul0 : 0 ≤ (n : Int) * (f.size : Int) := Int.mul_nonneg (by omega) (by omega)
        have HL : Hid ((Plain.subst f.data.toList t.data.toList).length ≤ 1048576) := by
          refine sub_len _ _ n hn ?_
          rw [← hsl, ← hfl]
          have : ((n * f.size : Nat) : Int) = (n : Int) * (f.size : Int) := by simp
          omega
        have HN := hide hn
        have hd1 : decide (1048576 < (t.size : Int)) = false := by rw [decide_eq_false_iff_not]; omega
        have hd2 : decide (1048576 < (f.size : Int)) = false := by rw [decide_eq_false_iff_not]; omega
        have hd3 : decide (1048576 < (t.size : Int) + (f.size : Int)) = false := by rw [decide_eq_false_iff_not]; omega
        clear hn hle hsl hfl
        have hfd : f.size = 0 ∨ (0 < f.size ∧ (n : Int) ≤ (1048576 - ((t.size : Int) - n)) / (f.size : Int)) := by
          by_cases hf0 : 0 < f.size
          · right; exact ⟨hf0, by have := not_and.1 hq hf0; omega⟩
          · left; omega
        clear hq
        go_enter Try.func4, Try.ntmps4
        go_wp2_with fail
        refine (bytes_any _ _ _ ht hf).mono ?_
        rintro e w' ⟨rfl, hw'⟩
        have hw2 := hw'.symm
        subst hw2
        clear hw'
        rw [hd]
        go_wp2_with fail
        refine (stars_any _ _ (by omega)).mono ?_
        rintro e w' ⟨rfl, hw'⟩
        have hw2 := hw'.symm
        subst hw2
        clear hw'
        rw [HN.out]
        obtain ⟨cap, hcap⟩ : ∃ cap : Nat, (cap : Int) = (t.size : Int) - n + (n : Int) * (f.size : Int) := ⟨((t.size : Int) - n + (n : Int) * (f.size : Int)).toNat, by omega⟩
        have HCAP := hide hcap
        have hcap1 : cap ≤ 1048576 := by omega
        clear hcap
        have key : 0 < f.size ∨ ¬ 0 < f.size := by omega
        have hq2 : 0 < f.size → (n : Int) ≤ (1048576 - ((t.size : Int) - n)) / (f.size : Int) := fun h => by
          rcases hfd with h2 | h2
          · omega
          · exact h2.2
        clear hfd
        rcases key with hf0 | hf0
        all_goals
          first
            | (have hq3 : decide ((1048576 - ((t.size : Int) - n)) / (f.size : Int) < (n : Int)) = false := decide_eq_false (Int.not_lt.2 (hq2 hf0)); clear hq2)
            | clear hq2
          go_wp2_with (at_make; refine wpList_make_own _ rfl _ _ 24 rfl w.heap.size 5 i0 (.int .u8 0) 1 Try.underlying24 hi hz0 hz1 _ _ _ cap rfl rfl (by exact HCAP.out.symm) (by rw [hz2]; omega) (by unfold maxLen; omega) (Nat.le_refl _) ?_)
          intro w1 hown hgrow
          have hbel : Below w.heap.size w w1 := (Below.refl _ _).grown hgrow (Nat.le_refl _) (fun k h => by cases h)
          have HOWN : Hid (Own w.heap.size w1 (.slice (some ⟨w.heap.size, 0, none⟩) 0 cap) (Plain.subst f.data.toList (t.data.toList.take 0))) := hown
          clear hown hgrow
          go_wp2_with fail
        all_goals
          clear hmul hmul0 HCAP hcap1 hd1 hd2 hd3 hd hf0
          go_loopw [7, 8] (fun v i wr => ∃ k : Nat, k ≤ t.size ∧ i = .int .i64 k ∧ Hid (Own w.heap.size wr v (Plain.subst f.data.toList (t.data.toList.take k))) ∧ Below w.heap.size w wr) (fun _ i _ => t.size - (intOf i).toNat)
          case atStart => exact ⟨0, Nat.zero_le _, rfl, HOWN, hbel⟩
          case round =>
            obtain ⟨k, hk, rfl, HO, hb⟩ := hrel
            clear HOWN hbel
            have hsz := hb.size
            obtain ⟨l, hl⟩ : ∃ l, l = Plain.subst f.data.toList (t.data.toList.take k) := ⟨_, rfl⟩
            have hlen : l.length ≤ 1048576 := by rw [hl]; exact Nat.le_trans (sub_take _ _ k) HL.out
            by_cases hlt : k < t.size
            · cases hc : ((t[k].toNat : Int) == 42)
              · have HN2 : Hid (Plain.subst f.data.toList (t.data.toList.take (k + 1)) = l ++ [t[k]]) := by
                  show Plain.subst _ _ = _
                  rw [sub_other _ t k hlt hc, hl]
                rw [← hl] at HO
                have HL2 := hide hl
                clear hl
                go_wp2_with (at_builtin; refine wpList_append_own _ rfl _ _ 24 rfl w.heap.size 5 i0 (.int .u8 0) 1 1 Try.underlying24 hi hz0 hz1 hz2 rfl (by decide) _ l.length (l.map bv) rfl (HO.out.alloc _) ⟨wr.heap.size, 0, none⟩ 1 1 [.int .u8 (t[k].toNat : Int)] rfl rfl (new_one _ _) (one_cell _ _) (by unfold maxLen; omega) (by omega) (by simp; omega) ?_)
                intro v' w2 hown' hgrow _
                have HR : Hid (Own w.heap.size w2 v' (Plain.subst f.data.toList (t.data.toList.take (k + 1)))) := by
                  show Own _ _ _ _
                  rw [HN2.out]; exact own_snoc hown'
                have hb2 : Below w.heap.size w w2 := (hb.alloc hsz _).grown hgrow (by simp; omega) (own_block HO.out)
                clear hown' hgrow HO hb HN2 HL2
                go_wp2
                go_roundw
                case rel => exact ⟨k + 1, by omega, by go_num, HR, hb2⟩
                case measure => simp [intOf]; omega
              · have HN2 : Hid (Plain.subst f.data.toList (t.data.toList.take (k + 1)) = l ++ f.data.toList) := by
                  show Plain.subst _ _ = _
                  rw [sub_star _ t k hlt hc, hl]
                have hlen2 : l.length + f.size ≤ 1048576 := by
                  have h2 := Nat.le_trans (sub_take f.data.toList t.data.toList (k + 1)) HL.out
                  rw [HN2.out, List.length_append, ← size_len] at h2
                  exact h2
                rw [← hl] at HO
                have HL2 := hide hl
                clear hl
                obtain ⟨wo, hwo⟩ : ∃ wo : World, wo = wr := ⟨_, rfl⟩
                rw [← hwo] at HO hb hsz ⊢
                clear hwo
                go_wp2_with fail
                rw [show l = l ++ f.data.toList.take 0 by rw [List.take_zero, List.append_nil]] at HO
                go_loopw [7, 9] (fun v' j wi => ∃ q : Nat, q ≤ f.size ∧ j = .int .i64 q ∧ Hid (Own w.heap.size wi v' (l ++ f.data.toList.take q)) ∧ Below w.heap.size w wi) (fun _ j _ => f.size - (intOf j).toNat)
                case atStart => exact ⟨0, Nat.zero_le _, rfl, HO, hb⟩
                case round =>
                  clear HO hb hsz
                  obtain ⟨q, hq, rfl, HO, hbi⟩ := hrel
                  have hsz := hbi.size
                  by_cases hlq : q < f.size
                  · have HT : Hid (l ++ f.data.toList.take (q + 1) = (l ++ f.data.toList.take q) ++ [f[q]]) := by
                      show _ ++ _ = _
                      rw [take_snoc f q hlq, List.append_assoc]
                    have hlen3 : (l ++ f.data.toList.take q).length ≤ 1048576 := by
                      rw [List.length_append, List.length_take, ← size_len]
                      omega
                    generalize l ++ f.data.toList.take q = l2 at HO HT hlen3
                    go_wp2_with (at_builtin; refine wpList_append_own _ rfl _ _ 24 rfl w.heap.size 5 i0 (.int .u8 0) 1 1 Try.underlying24 hi hz0 hz1 hz2 rfl (by decide) _ l2.length (l2.map bv) rfl (HO.out.alloc _) ⟨wr.heap.size, 0, none⟩ 1 1 [.int .u8 (f[q].toNat : Int)] rfl rfl (new_one _ _) (one_cell _ _) (by unfold maxLen; omega) (by omega) (by simp; omega) ?_)
                    intro v' w2 hown' hgrow _
                    have HR : Hid (Own w.heap.size w2 v' (l ++ f.data.toList.take (q + 1))) := by
                      show Own _ _ _ _
                      rw [HT.out]; exact own_snoc hown'
                    have hb2 : Below w.heap.size w w2 := (hbi.alloc hsz _).grown hgrow (by simp; omega) (own_block HO.out)
                    clear hown' hgrow HO hbi HT
                    go_wp2
                    go_roundw
                    case rel => exact ⟨q + 1, by omega, by go_num, HR, hb2⟩
                    case measure => simp [intOf]; omega
                  · rw [take_all f q hlq, ← HN2.out] at HO
                    go_wp2
                    go_roundw
                    case rel => exact ⟨k + 1, by omega, by go_num, HO, hbi⟩
                    case measure => simp [intOf]; omega
            · have HS : Hid (l = Plain.subst f.data.toList t.data.toList) := by
                show l = _
                rw [hl, take_all t k hlt]
              rw [← hl] at HO
              have HL2 := hide hl
              clear hl
              have hcv := own_string HO.out
              go_wp2_with fail
              refine (HM.out ⟨l.toArray⟩ _ hb HS.out HST.out (by omega) (by simpa [ByteArray.size] using hlen)).mono ?_
              rintro e w2 ⟨rfl, hb2⟩
              go_wp2
              go_ret
              exact ⟨rfl, hb2⟩
  · have hd : decide (t.size + f.size ≤ 1048576) = false := by simpa using h1
    go_enter Try.func4, Try.ntmps4
    go_wp2_with (go_at_call 11; refine (bytes_any _ _ _ ht hf).mono ?_; rintro e w' ⟨rfl, rfl⟩)
    go_ret
    exact ⟨rfl, Below.refl _ _⟩
end Go.Proofs.Qxb6603768a
