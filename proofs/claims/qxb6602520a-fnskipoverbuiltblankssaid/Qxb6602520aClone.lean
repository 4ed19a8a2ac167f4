import Derived.Test.Qxb6602520aSkip
import Derived.Lib.SliceRun
namespace Go.Proofs.Qxb6602520a
open Go.RowKit

theorem Try.info5 : (Try.prog.info? 5).map (fun i => (i.zero, i.size, i.bytes)) = some (some (.int .u8 0), 1, 1) := by kernel_rfl
theorem Try.info9 : (Try.prog.info? 9).map (fun i => (i.zero, i.size, i.bytes)) = some (some (.string { data := #[] }), 1, 16) := by kernel_rfl

/-- a byte, a string, as a value -/
def bv (c : UInt8) : Value := .int .u8 (c.toNat : Int)
def sv (c : ByteArray) : Value := .string c

/-- the elements of a slice value, wherever they lie -/
structure View (w : World) (ao : Option Addr) (n : Nat) (vs : List Value) : Prop where
  len : vs.length = n
  here : 0 < n → ∃ b off, ao = some ⟨b, off, none⟩ ∧ b < w.heap.size ∧ ∀ j, j < n → w.cell? ⟨b, off + j, none⟩ = vs[j]?

theorem View.below {w w' : World} {ao : Option Addr} {n : Nat} {vs : List Value} (h : View w ao n vs) (hb : Below w.heap.size w w') : View w' ao n vs := by
  refine ⟨h.len, fun hn => ?_⟩
  obtain ⟨b, off, e, hlt, hc⟩ := h.here hn
  exact ⟨b, off, e, Nat.lt_of_lt_of_le hlt hb.size, fun j hj => (hb.cell (p := ⟨b, off + j, none⟩) hlt).trans (hc j hj)⟩

/-- after k rounds of a copying loop -/
def Copied (B : Nat) (E : TypeId) (wr : World) (n k : Nat) (vs : List Value) : Prop :=
  ∃ xs, wr.ownsRow B E 1 (.slice (some ⟨B, 0, none⟩) n n) n xs ∧ ∀ j, j < k → xs[j]? = vs[j]?

theorem copied_cell {B : Nat} {E : TypeId} {wr : World} {n k : Nat} {vs : List Value} (h : Copied B E wr n k vs) (hk : k < n) :
    (∃ u, wr.cell? ⟨B, k, none⟩ = some u) ∧ wr.frozen? ⟨B, k, none⟩ = false := by
  obtain ⟨xs, hown, _⟩ := h
  refine ⟨?_, World.ownsRow.frozenAt hown k⟩
  have hc := World.ownsRow.cellAt hown k (by omega)
  have hl : xs.length = n := by have := hown.1; omega
  exact ⟨xs[k], by rw [hc, List.getElem?_eq_getElem (by omega)]⟩

theorem copied_step {B : Nat} {E : TypeId} {wr : World} {n k : Nat} {vs : List Value} {v : Value} (h : Copied B E wr n k vs) (hk : k < n) (hv : vs[k]? = some v) :
    Copied B E (wr.setCell ⟨B, k, none⟩ v) n (k + 1) vs := by
  obtain ⟨xs, hown, hx⟩ := h
  have hl : xs.length = n := by have := hown.1; omega
  refine ⟨xs.set k v, (World.ownsRow.stored hown k v).1, fun j hj => ?_⟩
  by_cases e : j = k
  · subst e
    rw [List.getElem?_set_self (by omega), hv]
  · rw [List.getElem?_set_ne (by omega)]
    exact hx j (by omega)

theorem copied_view {B : Nat} {E : TypeId} {wr : World} {n : Nat} {vs : List Value} (h : Copied B E wr n n vs) (hl : vs.length = n) : View wr (some ⟨B, 0, none⟩) n vs := by
  obtain ⟨xs, hown, hx⟩ := h
  refine ⟨hl, fun hn => ⟨B, 0, rfl, (World.ownsRow.lt hown B rfl).2, fun j hj => ?_⟩⟩
  rw [Nat.zero_add, World.ownsRow.cellAt hown j (by omega), hx j hj]

set_option maxHeartbeats 1000000 in
theorem cloneB (ao : Option Addr) (n cap : Nat) (l : List UInt8) (w : World) (hn : n ≤ 1048576) (hnil : ao = none → n = 0 ∧ cap = 0) (hv : View w ao n (l.map bv)) :
    Calls Try.prog 23 #[.slice ao n cap] w fun e w' => ∃ ao' cap', e = .returned (.slice ao' n cap') ∧ View w' ao' n (l.map bv) ∧ Below w.heap.size w w' := by
  obtain ⟨i0, hi, hz0, hz1, hz2⟩ := info_parts Try.info5
  cases ao with
  | none =>
    obtain ⟨rfl, rfl⟩ := hnil rfl
    have hq := fun w => Lib.run_eql_slice_nil (P := Try.prog) w 28 5 none 0 0 0 0 Try.underlying28
    have HV := hide hv
    clear hv hnil
    go_enter Try.func23, Try.ntmps23
    go_wp2
    go_ret
    exact ⟨none, 0, rfl, HV.out, Below.refl _ _⟩
  | some x =>
    have hq := fun w => Lib.run_eql_slice_nil (P := Try.prog) w 28 5 (some x) n cap 0 0 Try.underlying28
    have HV := hide hv
    clear hv hnil
    go_enter Try.func23, Try.ntmps23
    go_wp2_with (at_make; refine wpList_make_full _ rfl _ _ 28 rfl w.heap.size 5 i0 (.int .u8 0) 1 Try.underlying28 hi hz0 hz1 _ _ _ _ n rfl rfl rfl rfl (by rw [hz2]; omega) (by unfold maxLen; omega) (Nat.le_refl _) ?_)
    intro w1 hown hgrow
    have hb1 : Below w.heap.size w w1 := (Below.refl _ _).grown hgrow (Nat.le_refl _) (fun k h => by cases h)
    have HC : Hid (Copied w.heap.size 5 w1 n 0 (l.map bv)) := ⟨_, hown, fun j hj => absurd hj (Nat.not_lt_zero _)⟩
    clear hown hgrow
    go_wp2_with fail
    go_loopw [4] (fun i wr => ∃ k : Nat, k ≤ n ∧ i = .int .i64 k ∧ Hid (Copied w.heap.size 5 wr n k (l.map bv)) ∧ Below w.heap.size w wr) (fun i _ => n - (intOf i).toNat)
    case atStart => exact ⟨0, Nat.zero_le _, rfl, HC, hb1⟩
    case round =>
      clear HC hb1
      obtain ⟨k, hk, rfl, HC, hb⟩ := hrel
      by_cases hlt : k < n
      · obtain ⟨b, off, hx, hbl, hcell⟩ := HV.out.here (by omega)
        simp only [Option.some.injEq] at hx
        subst hx
        have hlen := HV.out.len
        rw [List.length_map] at hlen
        have hkl : k < l.length := by omega
        have hval : (l.map bv)[k]? = some (.int .u8 (l[k].toNat : Int)) := by rw [List.getElem?_map, List.getElem?_eq_getElem hkl]; rfl
        have hck : wr.cell? ⟨b, off + k, none⟩ = some (.int .u8 (l[k].toNat : Int)) := ((hb.cell (p := ⟨b, off + k, none⟩) hbl).trans (hcell k hlt)).trans hval
        obtain ⟨⟨u, hu⟩, hfz⟩ := copied_cell HC.out hlt
        have HN : Hid (Copied w.heap.size 5 (wr.setCell ⟨w.heap.size, k, none⟩ (.int .u8 (l[k].toNat : Int))) n (k + 1) (l.map bv)) := copied_step HC.out hlt hval
        have hb2 : Below w.heap.size w (wr.setCell ⟨w.heap.size, k, none⟩ (.int .u8 (l[k].toNat : Int))) := hb.setCell (Nat.le_refl _) _
        have hsz := hb.size
        clear HC hcell hval hlen
        go_wp2
        go_roundw
        case rel => exact ⟨k + 1, by omega, by go_num, HN, hb2⟩
        case measure => simp [intOf]; omega
      · obtain rfl : k = n := by omega
        have HN : Hid (View wr (some ⟨w.heap.size, 0, none⟩) k (l.map bv)) := copied_view HC.out HV.out.len
        go_wp2
        go_ret
        exact ⟨_, _, rfl, HN.out, hb⟩

set_option maxHeartbeats 1000000 in
theorem cloneS (ao : Option Addr) (n cap : Nat) (l : List ByteArray) (w : World) (hn : n ≤ 1048576) (hnil : ao = none → n = 0 ∧ cap = 0) (hv : View w ao n (l.map sv)) :
    Calls Try.prog 22 #[.slice ao n cap] w fun e w' => ∃ ao' cap', e = .returned (.slice ao' n cap') ∧ View w' ao' n (l.map sv) ∧ Below w.heap.size w w' := by
  obtain ⟨i0, hi, hz0, hz1, hz2⟩ := info_parts Try.info9
  cases ao with
  | none =>
    obtain ⟨rfl, rfl⟩ := hnil rfl
    have hq := fun w => Lib.run_eql_slice_nil (P := Try.prog) w 32 9 none 0 0 0 0 Try.underlying32
    have HV := hide hv
    clear hv hnil
    go_enter Try.func22, Try.ntmps22
    go_wp2
    go_ret
    exact ⟨none, 0, rfl, HV.out, Below.refl _ _⟩
  | some x =>
    have hq := fun w => Lib.run_eql_slice_nil (P := Try.prog) w 32 9 (some x) n cap 0 0 Try.underlying32
    have HV := hide hv
    clear hv hnil
    go_enter Try.func22, Try.ntmps22
    go_wp2_with (at_make; refine wpList_make_full _ rfl _ _ 32 rfl w.heap.size 9 i0 (.string { data := #[] }) 1 Try.underlying32 hi hz0 hz1 _ _ _ _ n rfl rfl rfl rfl (by rw [hz2]; omega) (by unfold maxLen; omega) (Nat.le_refl _) ?_)
    intro w1 hown hgrow
    have hb1 : Below w.heap.size w w1 := (Below.refl _ _).grown hgrow (Nat.le_refl _) (fun k h => by cases h)
    have HC : Hid (Copied w.heap.size 9 w1 n 0 (l.map sv)) := ⟨_, hown, fun j hj => absurd hj (Nat.not_lt_zero _)⟩
    clear hown hgrow
    go_wp2_with fail
    go_loopw [4] (fun i wr => ∃ k : Nat, k ≤ n ∧ i = .int .i64 k ∧ Hid (Copied w.heap.size 9 wr n k (l.map sv)) ∧ Below w.heap.size w wr) (fun i _ => n - (intOf i).toNat)
    case atStart => exact ⟨0, Nat.zero_le _, rfl, HC, hb1⟩
    case round =>
      clear HC hb1
      obtain ⟨k, hk, rfl, HC, hb⟩ := hrel
      by_cases hlt : k < n
      · obtain ⟨b, off, hx, hbl, hcell⟩ := HV.out.here (by omega)
        simp only [Option.some.injEq] at hx
        subst hx
        have hlen := HV.out.len
        rw [List.length_map] at hlen
        have hkl : k < l.length := by omega
        have hval : (l.map sv)[k]? = some (.string l[k]) := by rw [List.getElem?_map, List.getElem?_eq_getElem hkl]; rfl
        have hck : wr.cell? ⟨b, off + k, none⟩ = some (.string l[k]) := ((hb.cell (p := ⟨b, off + k, none⟩) hbl).trans (hcell k hlt)).trans hval
        obtain ⟨⟨u, hu⟩, hfz⟩ := copied_cell HC.out hlt
        have HN : Hid (Copied w.heap.size 9 (wr.setCell ⟨w.heap.size, k, none⟩ (.string l[k])) n (k + 1) (l.map sv)) := copied_step HC.out hlt hval
        have hb2 : Below w.heap.size w (wr.setCell ⟨w.heap.size, k, none⟩ (.string l[k])) := hb.setCell (Nat.le_refl _) _
        have hsz := hb.size
        clear HC hcell hval hlen
        go_wp2
        go_roundw
        case rel => exact ⟨k + 1, by omega, by go_num, HN, hb2⟩
        case measure => simp [intOf]; omega
      · obtain rfl : k = n := by omega
        have HN : Hid (View wr (some ⟨w.heap.size, 0, none⟩) k (l.map sv)) := copied_view HC.out HV.out.len
        go_wp2
        go_ret
        exact ⟨_, _, rfl, HN.out, hb⟩

end Go.Proofs.Qxb6602520a
