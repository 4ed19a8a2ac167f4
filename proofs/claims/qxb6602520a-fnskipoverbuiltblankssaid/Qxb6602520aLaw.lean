import Derived.Test.Qxb6602520aParts
namespace Go.Proofs.Qxb6602520a
open Go.RowKit

set_option maxRecDepth 100000 in
set_option maxHeartbeats 4000000 in
theorem law_walk (p r : ByteArray) (ao a1 a2 : Option Addr) (n c n1 c1 n2 c2 : Nat) (dr : Bool) (cs : List ByteArray) (l1 l2 : List UInt8) (w : World)
    (hp : p.size ≤ maxLen) (hr : r.size ≤ maxLen) (hn : n ≤ maxLen) (hn1 : n1 ≤ maxLen) (hn2 : n2 ≤ maxLen) (hcs : ∀ j, (cs.getD j ByteArray.empty).size ≤ maxLen)
    (hv0 : View w ao n (cs.map sv)) (hv1 : View w a1 n1 (l1.map bv)) (hv2 : View w a2 n2 (l2.map bv))
    (hz0 : ao = none → n = 0 ∧ c = 0) (hz1 : a1 = none → n1 = 0 ∧ c1 = 0) (hz2 : a2 = none → n2 = 0 ∧ c2 = 0) :
    Calls Try.prog 8 #[.string p, .slice ao n c, .slice a1 n1 c1, .slice a2 n2 c2, .string r, .bool dr] w fun e w' => e = .returned (.bool true) ∧ Below w.heap.size w w' := by
  have HB := hide (bytes_any p r ao a1 a2 n c n1 c1 n2 c2 dr cs w hp hr hn hn1 hn2 hcs hv0)
  unfold maxLen at hp hr hn hn1 hn2
  have HV0 := hide hv0
  have HV1 := hide hv1
  have HV2 := hide hv2
  have HZ0 := hide hz0
  have HZ1 := hide hz1
  have HZ2 := hide hz2
  clear hv0 hv1 hv2 hz0 hz1 hz2 hcs
  go_enter Try.func8, Try.ntmps8
  go_wp2_with fail
  refine HB.out.mono ?_
  rintro e w1 ⟨⟨b, rfl, hbs⟩, hw1⟩
  have hw2 := hw1.symm
  subst hw2
  clear hw1 HB
  cases b with
  | false =>
    go_wp2
    go_ret
    exact ⟨rfl, Below.refl _ _⟩
  | true =>
  have HSZ := hide (hbs rfl)
  clear hbs
  by_cases t1 : (1048576 : Int) < p.size
  · go_wp2
    go_ret
    exact ⟨rfl, Below.refl _ _⟩
  by_cases t2 : (1048576 : Int) < r.size
  · go_wp2
    go_ret
    exact ⟨rfl, Below.refl _ _⟩
  by_cases t3 : (65536 : Int) < n
  · go_wp2
    go_ret
    exact ⟨rfl, Below.refl _ _⟩
  by_cases t4 : (1048576 : Int) < n1
  · go_wp2
    go_ret
    exact ⟨rfl, Below.refl _ _⟩
  by_cases t5 : (1048576 : Int) < n2
  · go_wp2
    go_ret
    exact ⟨rfl, Below.refl _ _⟩
  by_cases t6 : (1048576 : Int) < (p.size : Int) + r.size + 16 * n + n1 + n2
  · go_wp2
    go_ret
    exact ⟨rfl, Below.refl _ _⟩
  have d1 : decide ((1048576 : Int) < p.size) = false := by rw [decide_eq_false_iff_not]; exact t1
  have d3 : decide ((65536 : Int) < n) = false := by rw [decide_eq_false_iff_not]; exact t3
  have d6 : decide ((1048576 : Int) < (p.size : Int) + r.size + 16 * n + n1 + n2) = false := by rw [decide_eq_false_iff_not]; exact t6
  have d2 : decide ((1048576 : Int) < r.size) = false := by rw [decide_eq_false_iff_not]; exact t2
  have d4 : decide ((1048576 : Int) < n1) = false := by rw [decide_eq_false_iff_not]; exact t4
  have d5 : decide ((1048576 : Int) < n2) = false := by rw [decide_eq_false_iff_not]; exact t5
  go_wp2
  clear d1 d2 d3 d4 d5 d6
  go_loop [13, 14] (fun t i => ∃ k m : Nat, k ≤ n ∧ m ≤ 1048576 ∧ i = .int .i64 k ∧ t = .int .i64 m ∧ Hid (m = p.size + r.size + 16 * n + n1 + n2 + sumTo cs k)) (fun _ i => n - (intOf i).toNat)
  case atStart => exact ⟨0, p.size + r.size + 16 * n + n1 + n2, Nat.zero_le _, by omega, rfl, by go_num, rfl⟩
  case round =>
    obtain ⟨k, m, hk, hm, rfl, rfl, HS⟩ := hrel
    by_cases hlt : k < n
    · obtain ⟨b, off, hx, hbl, hcell⟩ := view_str HV0.out hlt
      subst hx
      have hsz := HSZ.out k hlt
      have HS2 : Hid (m + (cs.getD k ByteArray.empty).size = p.size + r.size + 16 * n + n1 + n2 + sumTo cs (k + 1)) := by
        show _ = _ + (sumTo cs k + _)
        have := HS.out
        omega
      clear HS
      generalize cs.getD k ByteArray.empty = C at *
      by_cases h5 : (1048576 : Int) < (m : Int) + C.size
      · go_wp2
        go_ret
        exact ⟨rfl, Below.refl _ _⟩
      go_wp2
      go_round
      case rel => exact ⟨k + 1, m + C.size, by omega, by omega, by go_num, by go_num, HS2⟩
      case measure => simp [intOf]; omega
    · have hkn : n = k := by omega
      subst hkn
      clear HSZ hlt hk
      go_upto_region 16 with fail
      go_cut [99] (fun t w' => w' = w ∧ ∃ b : Bool, t = .bool b ∧ Hid (b = false → Plain.step r.data.toList = none))
      case first =>
        by_cases hr0 : r.size = 0
        · have HE : Hid (Plain.step r.data.toList = none) := by
            have e := drop_end r 0 (by omega)
            rw [List.drop_zero] at e
            show Plain.step _ = _
            rw [e]; rfl
          have hr1 : decide (0 < (r.size : Int)) = false := by rw [decide_eq_false_iff_not]; omega
          go_wp2_with fail
          go_meet
          case rel => exact ⟨rfl, false, rfl, fun _ => HE.out⟩
        · have hr1 : 0 < (r.size : Int) := by omega
          have hr2 : 0 < r.size := by omega
          cases hsp : spI (r[0].toNat : Int)
          · have HE : Hid (Plain.cm r.data.toList = false → Plain.step r.data.toList = none) := by
              intro hc
              have e := drop_at r 0 hr2
              rw [List.drop_zero] at e
              exact step_stop e (by rw [← spI_eq]; exact hsp) hc
            go_wp2_with (first | (go_at_call 19; refine (blank_any _ _).mono ?_; rintro e w' ⟨rfl, rfl⟩) | (go_at_call 20; refine (comment_any _ _ (by omega)).mono ?_; rintro e w' ⟨rfl, rfl⟩))
            go_meet
            case rel => exact ⟨rfl, _, rfl, HE.out⟩
          · go_wp2_with (go_at_call 19; refine (blank_any _ _).mono ?_; rintro e w' ⟨rfl, rfl⟩)
            go_meet
            case rel => exact ⟨rfl, true, rfl, fun h => by cases h⟩
      case rest =>
        obtain ⟨hwc, b, rfl, HSTOP⟩ := hcut
        have hwc2 := hwc.symm
        subst hwc2
        clear hwc
        cases b with
        | true =>
          go_wp2
          go_ret
          exact ⟨rfl, Below.refl _ _⟩
        | false =>
        have HSTOP2 := hide (HSTOP.out rfl)
        clear HSTOP
        obtain ⟨i0, hi, hz0, hz1, hz2⟩ := info_parts Try.info5
        go_wp2_with fail
        refine (cloneS ao n c cs w (by omega) HZ0.out HV0.out).mono ?_
        rintro e w1 ⟨ao', c', rfl, V0, hb1⟩
        have HB1 := hide hb1
        have HU0 := hide V0
        clear V0 HV0 HZ0 hb1
        go_wp2_with fail
        refine (cloneB a1 n1 c1 l1 w1 (by omega) HZ1.out (HV1.out.below HB1.out)).mono ?_
        rintro e w2 ⟨a1', c1', rfl, V1, hb2⟩
        have HB2 := hide hb2
        have HU1 := hide V1
        clear V1 HV1 HZ1 hb2
        go_wp2_with fail
        refine (cloneB a2 n2 c2 l2 w2 (by omega) HZ2.out ((HV2.out.below HB1.out).below (HB2.out))).mono ?_
        rintro e w3 ⟨a2', c2', rfl, V2, hb3⟩
        have HW0 := hide ((HU0.out.below HB2.out).below hb3)
        have HW1 := hide (HU1.out.below hb3)
        have HW2 := hide V2
        have HB : Hid (Below w.heap.size w w3) := HB1.out.trans ((HB2.out.mono HB1.out.size).trans (hb3.mono (Nat.le_trans HB1.out.size HB2.out.size)))
        clear HU0 HU1 V2 HV2 HZ2 hb3 HB1 HB2
        go_wp2_with (at_make; refine wpList_make_own _ rfl _ _ 28 rfl w3.heap.size 5 i0 (.int .u8 0) 1 Try.underlying28 hi hz0 hz1 _ _ _ m rfl rfl rfl (by rw [hz2]; omega) (by unfold maxLen; omega) (Nat.le_refl _) ?_)
        intro w4 hown hgrow
        have hbel : Below w3.heap.size w3 w4 := (Below.refl _ _).grown hgrow (Nat.le_refl _) (fun k h => by cases h)
        have HO : Hid (Own w3.heap.size w4 (.slice (some ⟨w3.heap.size, 0, none⟩) 0 m) (blank cs l1 l2 n dr (decide (r.size = 0)) 0)) := hown
        clear hown hgrow
        go_wp2_with fail
        obtain ⟨re, hre⟩ : ∃ re : Bool, re = decide (r.size = 0) := ⟨_, rfl⟩
        rw [← hre] at HO
        have HRE := hide hre
        clear hre
        go_loopw [15, 16] (fun v i wr => ∃ k : Nat, k ≤ n ∧ i = .int .i64 k ∧ Hid (Own w3.heap.size wr v (blank cs l1 l2 n dr re k)) ∧ Below w3.heap.size w3 wr) (fun _ i _ => n - (intOf i).toNat)
        case atStart => exact ⟨0, Nat.zero_le _, rfl, HO, hbel⟩
        case round =>
          clear HO hbel
          obtain ⟨k, hk, rfl, HO, hb⟩ := hrel
          have hsz := hb.size
          by_cases hlt : k < n
          · obtain ⟨g, off, hx, hgl, hcell⟩ := view_str HW0.out hlt
            subst hx
            have hck : wr.cell? ⟨g, off + k, none⟩ = some (.string (cs.getD k ByteArray.empty)) := (hb.cell (p := ⟨g, off + k, none⟩) hgl).trans hcell
            clear hcell
            have HSUC := hide (blank_succ cs l1 l2 n dr re k)
            have hlen : (blank cs l1 l2 n dr re k).length + (cs.getD k ByteArray.empty).size + 5 ≤ 1048576 := by
              have h1 := blank_le cs l1 l2 n dr re k
              have h2 := sumTo_le cs (k + 1) n hlt
              have h3 : sumTo cs (k + 1) = sumTo cs k + (cs.getD k ByteArray.empty).size := rfl
              have h4 := HS.out
              omega
            generalize blank cs l1 l2 n dr re k = l at HO HSUC hlen
            generalize cs.getD k ByteArray.empty = C at hck HSUC hlen
            go_upto_if 121 with fail
            go_cut [18] (fun lc w' => w' = wr ∧ lc = .int .u8 ((l1.getD k 0).toNat : Int))
            case first =>
              by_cases hk1 : k < n1
              · obtain ⟨g1, off1, hx, hgl1, hcell1⟩ := view_byte HW1.out hk1
                subst hx
                have hck1 : wr.cell? ⟨g1, off1 + k, none⟩ = some (.int .u8 ((l1.getD k 0).toNat : Int)) := (hb.cell (p := ⟨g1, off1 + k, none⟩) hgl1).trans hcell1
                clear hcell1
                generalize l1.getD k 0 = A at *
                have hk1' : (k : Int) < (n1 : Int) := by omega
                go_wp2_with fail
                go_meet
                case rel => exact ⟨rfl, rfl⟩
              · have hA : l1.getD k 0 = 0 := getD_out l1 k (by have := HW1.out.len; rw [List.length_map] at this; omega)
                have HA := hide hA
                clear hA
                go_wp2_with fail
                go_meet
                case rel => exact ⟨rfl, by rw [HA.out]; rfl⟩
            case rest =>
              obtain ⟨hwc, rfl⟩ := hcut
              have hwc2 := hwc.symm
              subst hwc2
              clear hwc
              generalize l1.getD k 0 = A at *
              go_upto_region 29 with fail
              go_cut [19, 20] (fun x y w' => w' = wr ∧ ∃ (b : UInt8) (ok : Bool), x = .int .u8 (b.toNat : Int) ∧ y = .bool ok ∧ Hid (Plain.leadL A.toNat = if ok = true then [b] else []))
              case first =>
                rcases lead_any A wr with ⟨hL, HC⟩ | ⟨b, hL, HC⟩
                · have HCA := hide HC
                  have HLA := hide hL
                  clear HC hL
                  go_wp2_with fail
                  refine HCA.out.mono ?_
                  rintro e w5 ⟨rfl, hw5⟩
                  subst hw5
                  go_wp2_with fail
                  go_meet
                  case rel => exact ⟨rfl, 0, false, rfl, rfl, HLA.out⟩
                · have HCA := hide HC
                  have HLA := hide hL
                  clear HC hL
                  go_wp2_with fail
                  refine HCA.out.mono ?_
                  rintro e w5 ⟨rfl, hw5⟩
                  subst hw5
                  go_wp2_with fail
                  go_meet
                  case rel => exact ⟨rfl, b, true, rfl, rfl, HLA.out⟩
              case rest =>
                obtain ⟨hwc, b, ok, rfl, rfl, HLE⟩ := hcut
                have hwc2 := hwc.symm
                subst hwc2
                clear hwc
                go_upto_if 131 with fail
                go_cut [15] (fun v w' => Hid (Own w3.heap.size w' v (l ++ Plain.leadL A.toNat)) ∧ Below w3.heap.size w3 w')
                case first =>
                  cases ok with
                  | false =>
                    have HR : Hid (l ++ Plain.leadL A.toNat = l) := by
                      have h := HLE.out
                      show _ ++ _ = _
                      rw [h]; simp
                    go_wp2_with fail
                    go_meet
                    case rel => exact ⟨by rw [HR.out]; exact HO, hb⟩
                  | true =>
                    have HR : Hid (l ++ Plain.leadL A.toNat = l ++ [b]) := by
                      have h := HLE.out
                      show _ ++ _ = _
                      rw [h]; simp
                    go_wp2_with (at_builtin; refine wpList_append_own _ rfl _ _ 28 rfl w3.heap.size 5 i0 (.int .u8 0) 1 1 Try.underlying28 hi hz0 hz1 hz2 rfl (by decide) _ l.length (l.map bv) rfl (HO.out.alloc _) ⟨wr.heap.size, 0, none⟩ 1 1 [.int .u8 (b.toNat : Int)] rfl rfl (new_one _ _) (one_cell _ _) (by unfold maxLen; omega) (by omega) (by simp; omega) ?_)
                    intro v' w5 hown' hgrow _
                    have HR2 : Hid (Own w3.heap.size w5 v' (l ++ Plain.leadL A.toNat)) := by
                      show Own _ _ _ _
                      rw [HR.out]; exact own_one hown'
                    have hb2 : Below w3.heap.size w3 w5 := (hb.alloc hsz _).grown hgrow (by simp; omega) (own_block HO.out)
                    clear hown' hgrow
                    go_wp2_with fail
                    go_meet
                    case rel => exact ⟨HR2, hb2⟩
                case rest =>
                  obtain ⟨HO1, hb1⟩ := hcut
                  clear HO hb hck hsz HLE
                  have hlen1 : (l ++ Plain.leadL A.toNat).length + C.size + 4 ≤ 1048576 := by
                    have := leadL_le A.toNat
                    rw [List.length_append]
                    omega
                  generalize l ++ Plain.leadL A.toNat = l1' at HO1 HSUC hlen1
                  obtain ⟨wx, hwx⟩ : ∃ wx : World, wx = wc := ⟨_, rfl⟩
                  rw [← hwx] at HO1 hb1 ⊢
                  clear hwx
                  have hsz := hb1.size
                  go_upto_if 139 with fail
                  go_cut [21] (fun ic w' => w' = wx ∧ ic = .int .u8 ((l2.getD k 0).toNat : Int))
                  case first =>
                    by_cases hk2 : k < n2
                    · obtain ⟨g2, off2, hx, hgl2, hcell2⟩ := view_byte HW2.out hk2
                      subst hx
                      have hck2 : wx.cell? ⟨g2, off2 + k, none⟩ = some (.int .u8 ((l2.getD k 0).toNat : Int)) := (hb1.cell (p := ⟨g2, off2 + k, none⟩) hgl2).trans hcell2
                      clear hcell2
                      generalize l2.getD k 0 = D at *
                      have hk2' : (k : Int) < (n2 : Int) := by omega
                      go_wp2_with fail
                      go_meet
                      case rel => exact ⟨rfl, rfl⟩
                    · have hA : l2.getD k 0 = 0 := getD_out l2 k (by have := HW2.out.len; rw [List.length_map] at this; omega)
                      have HA := hide hA
                      clear hA
                      go_wp2_with fail
                      go_meet
                      case rel => exact ⟨rfl, by rw [HA.out]; rfl⟩
                  case rest =>
                    obtain ⟨hwc, rfl⟩ := hcut
                    have hwc2 := hwc.symm
                    subst hwc2
                    clear hwc
                    generalize l2.getD k 0 = D at *
                    go_wp2_with fail
                    refine (inner_any D _).mono ?_
                    rintro e w5 ⟨rfl, hw5⟩
                    have hw52 := hw5.symm
                    subst hw52
                    clear hw5
                    generalize Plain.innerB D.toNat = I at *
                    go_wp2_with (at_builtin; refine wpList_append_own _ rfl _ _ 28 rfl w3.heap.size 5 i0 (.int .u8 0) 1 1 Try.underlying28 hi hz0 hz1 hz2 rfl (by decide) _ l1'.length (l1'.map bv) rfl (HO1.out.alloc _) ⟨wx.heap.size, 0, none⟩ 3 3 [.int .u8 45, .int .u8 45, .int .u8 (I.toNat : Int)] rfl rfl (new_three _ _ _ _) (three_cell _ _ _ _) (by unfold maxLen; omega) (by omega) (by simp; omega) ?_)
                    intro v5 w5 hown' hgrow _
                    have HO2 : Hid (Own w3.heap.size w5 v5 ((l1' ++ [45, 45, I]) ++ (C.data.toList.take 0).map Plain.unl)) := by
                      show Own _ _ _ _
                      rw [List.take_zero, List.map_nil, List.append_nil]; exact own_three hown'
                    have hb2 : Below w3.heap.size w3 w5 := (hb1.alloc hsz _).grown hgrow (by simp; omega) (own_block HO1.out)
                    have hlen2 : (l1' ++ [45, 45, I]).length + C.size + 1 ≤ 1048576 := by
                      rw [List.length_append]
                      show l1'.length + 3 + C.size + 1 ≤ 1048576
                      omega
                    clear hown' hgrow HO1 hb1 hsz
                    generalize l1' ++ [45, 45, I] = l2' at HO2 HSUC hlen2
                    go_wp2_with fail
                    go_loopw [15, 22] (fun v' j wi => ∃ q : Nat, q ≤ C.size ∧ j = .int .i64 q ∧ Hid (Own w3.heap.size wi v' (l2' ++ (C.data.toList.take q).map Plain.unl)) ∧ Below w3.heap.size w3 wi) (fun _ j _ => C.size - (intOf j).toNat)
                    case atStart => exact ⟨0, Nat.zero_le _, rfl, HO2, hb2⟩
                    case round =>
                      clear HO2 hb2
                      obtain ⟨q, hq, rfl, HOq, hbq⟩ := hrel
                      have hszq := hbq.size
                      by_cases hlq : q < C.size
                      · have HT : Hid (l2' ++ (C.data.toList.take (q + 1)).map Plain.unl = (l2' ++ (C.data.toList.take q).map Plain.unl) ++ [Plain.unl C[q]]) := by
                          show _ ++ _ = _
                          rw [take_snoc C q hlq, List.map_append, List.append_assoc]
                          rfl
                        have hlen3 : (l2' ++ (C.data.toList.take q).map Plain.unl).length ≤ 1048576 := by
                          rw [List.length_append, List.length_map, List.length_take, ← size_len]
                          omega
                        generalize l2' ++ (C.data.toList.take q).map Plain.unl = l3 at HOq HT hlen3
                        cases hc10 : ((C[q].toNat : Int) == 10)
                        · rw [unl_int _ hc10] at HT
                          go_wp2_with (at_builtin; refine wpList_append_own _ rfl _ _ 28 rfl w3.heap.size 5 i0 (.int .u8 0) 1 1 Try.underlying28 hi hz0 hz1 hz2 rfl (by decide) _ l3.length (l3.map bv) rfl (HOq.out.alloc _) ⟨wr.heap.size, 0, none⟩ 1 1 [.int .u8 (C[q].toNat : Int)] rfl rfl (new_one _ _) (one_cell _ _) (by unfold maxLen; omega) (by omega) (by simp; omega) ?_)
                          intro v6 w6 hown' hgrow _
                          have HR : Hid (Own w3.heap.size w6 v6 (l2' ++ (C.data.toList.take (q + 1)).map Plain.unl)) := by
                            show Own _ _ _ _
                            rw [HT.out]; exact own_one hown'
                          have hb6 : Below w3.heap.size w3 w6 := (hbq.alloc hszq _).grown hgrow (by simp; omega) (own_block HOq.out)
                          clear hown' hgrow HOq hbq HT
                          go_wp2
                          go_roundw
                          case rel => exact ⟨q + 1, by omega, by go_num, HR, hb6⟩
                          case measure => simp [intOf]; omega
                        · rw [unl_nl _ hc10] at HT
                          go_wp2_with (at_builtin; refine wpList_append_own _ rfl _ _ 28 rfl w3.heap.size 5 i0 (.int .u8 0) 1 1 Try.underlying28 hi hz0 hz1 hz2 rfl (by decide) _ l3.length (l3.map bv) rfl (HOq.out.alloc _) ⟨wr.heap.size, 0, none⟩ 1 1 [.int .u8 32] rfl rfl (new_one _ _) (one_cell _ _) (by unfold maxLen; omega) (by omega) (by simp; omega) ?_)
                          intro v6 w6 hown' hgrow _
                          have HR : Hid (Own w3.heap.size w6 v6 (l2' ++ (C.data.toList.take (q + 1)).map Plain.unl)) := by
                            show Own _ _ _ _
                            rw [HT.out]; exact own_one (c := 32) hown'
                          have hb6 : Below w3.heap.size w3 w6 := (hbq.alloc hszq _).grown hgrow (by simp; omega) (own_block HOq.out)
                          clear hown' hgrow HOq hbq HT
                          go_wp2
                          go_roundw
                          case rel => exact ⟨q + 1, by omega, by go_num, HR, hb6⟩
                          case measure => simp [intOf]; omega
                      · rw [take_all C q hlq] at HOq
                        have hlen4 : (l2' ++ C.data.toList.map Plain.unl).length + 1 ≤ 1048576 := by
                          rw [List.length_append, List.length_map, ← size_len]
                          omega
                        generalize l2' ++ C.data.toList.map Plain.unl = l4 at HOq HSUC hlen4
                        have hre2 : ((r.size : Int) == 0) = re := by
                          have h := HRE.out
                          rw [h, Bool.eq_iff_iff]
                          simp only [beq_iff_eq, decide_eq_true_eq]
                          omega
                        have hla2 : ((k : Int) == (n : Int) - 1) = decide (k + 1 = n) := by
                          rw [Bool.eq_iff_iff]
                          simp only [beq_iff_eq, decide_eq_true_eq]
                          omega
                        generalize decide (k + 1 = n) = la at HSUC hla2
                        cases dr with
                        | false =>
                          have HN : Hid (blank cs l1 l2 n false re (k + 1) = l4 ++ [10]) := by
                            have h := HSUC.out
                            show _ = _
                            simpa using h
                          go_wp2_with (at_builtin; refine wpList_append_own _ rfl _ _ 28 rfl w3.heap.size 5 i0 (.int .u8 0) 1 1 Try.underlying28 hi hz0 hz1 hz2 rfl (by decide) _ l4.length (l4.map bv) rfl (HOq.out.alloc _) ⟨wr.heap.size, 0, none⟩ 1 1 [.int .u8 10] rfl rfl (new_one _ _) (one_cell _ _) (by unfold maxLen; omega) (by omega) (by simp; omega) ?_)
                          intro v6 w6 hown' hgrow _
                          have HR : Hid (Own w3.heap.size w6 v6 (blank cs l1 l2 n false re (k + 1))) := by
                            show Own _ _ _ _
                            rw [HN.out]; exact own_one (c := 10) hown'
                          have hb6 : Below w3.heap.size w3 w6 := (hbq.alloc hszq _).grown hgrow (by simp; omega) (own_block HOq.out)
                          clear hown' hgrow HOq hbq HN HSUC
                          go_wp2
                          go_roundw
                          case rel => exact ⟨k + 1, by omega, by go_num, HR, hb6⟩
                          case measure => simp [intOf]; omega
                        | true =>
                          cases la with
                          | false =>
                            have HN : Hid (blank cs l1 l2 n true re (k + 1) = l4 ++ [10]) := by
                              have h := HSUC.out
                              show _ = _
                              simpa using h
                            go_wp2_with (at_builtin; refine wpList_append_own _ rfl _ _ 28 rfl w3.heap.size 5 i0 (.int .u8 0) 1 1 Try.underlying28 hi hz0 hz1 hz2 rfl (by decide) _ l4.length (l4.map bv) rfl (HOq.out.alloc _) ⟨wr.heap.size, 0, none⟩ 1 1 [.int .u8 10] rfl rfl (new_one _ _) (one_cell _ _) (by unfold maxLen; omega) (by omega) (by simp; omega) ?_)
                            intro v6 w6 hown' hgrow _
                            have HR : Hid (Own w3.heap.size w6 v6 (blank cs l1 l2 n true re (k + 1))) := by
                              show Own _ _ _ _
                              rw [HN.out]; exact own_one (c := 10) hown'
                            have hb6 : Below w3.heap.size w3 w6 := (hbq.alloc hszq _).grown hgrow (by simp; omega) (own_block HOq.out)
                            clear hown' hgrow HOq hbq HN HSUC
                            go_wp2
                            go_roundw
                            case rel => exact ⟨k + 1, by omega, by go_num, HR, hb6⟩
                            case measure => simp [intOf]; omega
                          | true =>
                            cases re with
                            | false =>
                              have HN : Hid (blank cs l1 l2 n true false (k + 1) = l4 ++ [10]) := by
                                have h := HSUC.out
                                show _ = _
                                simpa using h
                              go_wp2_with (at_builtin; refine wpList_append_own _ rfl _ _ 28 rfl w3.heap.size 5 i0 (.int .u8 0) 1 1 Try.underlying28 hi hz0 hz1 hz2 rfl (by decide) _ l4.length (l4.map bv) rfl (HOq.out.alloc _) ⟨wr.heap.size, 0, none⟩ 1 1 [.int .u8 10] rfl rfl (new_one _ _) (one_cell _ _) (by unfold maxLen; omega) (by omega) (by simp; omega) ?_)
                              intro v6 w6 hown' hgrow _
                              have HR : Hid (Own w3.heap.size w6 v6 (blank cs l1 l2 n true false (k + 1))) := by
                                show Own _ _ _ _
                                rw [HN.out]; exact own_one (c := 10) hown'
                              have hb6 : Below w3.heap.size w3 w6 := (hbq.alloc hszq _).grown hgrow (by simp; omega) (own_block HOq.out)
                              clear hown' hgrow HOq hbq HN HSUC
                              go_wp2
                              go_roundw
                              case rel => exact ⟨k + 1, by omega, by go_num, HR, hb6⟩
                              case measure => simp [intOf]; omega
                            | true =>
                              have HN : Hid (blank cs l1 l2 n true true (k + 1) = l4) := by
                                have h := HSUC.out
                                show _ = _
                                simpa using h
                              rw [← HN.out] at HOq
                              clear HSUC HN
                              go_wp2
                              go_roundw
                              case rel => exact ⟨k + 1, by omega, by go_num, HOq, hbq⟩
                              case measure => simp [intOf]; omega
          · have hkn : n = k := by omega
            subst hkn
            obtain ⟨av, cv, hv⟩ := own_shape HO.out
            subst hv
            have hcv := own_string HO.out
            have hbl := blank_le cs l1 l2 n dr re n
            have HLAW := hide (law_here cs l1 l2 n dr re r.data.toList (fun h => by
              have h2 := HRE.out
              rw [h] at h2
              have h3 : r.size = 0 := of_decide_eq_true h2.symm
              exact List.eq_nil_of_length_eq_zero (by rw [← size_len]; exact h3)))
            have hlen : (blank cs l1 l2 n dr re n).length + p.size + r.size ≤ 1048576 := by
              have h4 := HS.out
              omega
            clear hbl
            generalize blank cs l1 l2 n dr re n = bl at HO HLAW hlen hcv ⊢
            go_wp2_with fail
            have hS1 : (p ++ (⟨bl.toArray⟩ : ByteArray) ++ r).data.toList = p.data.toList ++ bl ++ r.data.toList := by rw [append_list, append_list]
            have hS2 : (p ++ (⟨bl.toArray⟩ : ByteArray) ++ r).size = p.size + bl.length + r.size := by rw [append_size, append_size, size_mk bl]
            generalize p ++ (⟨bl.toArray⟩ : ByteArray) ++ r = S at hS1 hS2 ⊢
            refine (zzskip_any S p.size wr (by omega) (by omega)).mono ?_
            rintro e w6 ⟨q, rfl, hq, hR, hst, hb6⟩
            have hqe : q = p.size + bl.length := lands p r bl S hS1 q hq hR hst HLAW.out HSTOP2.out
            have hfin : ((q : Int) == (p.size : Int) + (bl.length : Int)) = true := by rw [beq_iff_eq]; omega
            clear hq hR hst hqe hcv hS1 hS2
            go_wp2
            go_ret
            exact ⟨rfl, HB.out.trans ((hb.mono HB.out.size).trans (hb6.mono (Nat.le_trans HB.out.size hsz)))⟩
end Go.Proofs.Qxb6602520a
