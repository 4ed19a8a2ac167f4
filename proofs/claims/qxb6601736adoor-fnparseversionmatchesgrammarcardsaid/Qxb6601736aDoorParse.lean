import Derived.Test.Qxb6601736aDoorNumber
import Derived.LoopN
namespace Go.Proofs.Qxb6601736aDoor
open Go.RowKit

def pv (v : List UInt8) : Option (Nat × Nat × Nat) := if Lib.hasPrefix v [118] = true then Plain.pvr (v.drop 1) else none

/-- the two results of parseVersion: the key, ok -/
def keyOf (x : Option (Nat × Nat × Nat)) : Value :=
  match x with
  | none => .tuple #[.agg #[.int .i64 0, .int .u64 0, .int .u64 0], .bool false]
  | some (s, M, m) => .tuple #[.agg #[.int .i64 s, .int .u64 M, .int .u64 m], .bool true]

/-- what the library's variables hold, in whatever later world -/
def Vars (w : World) : Prop := ∀ w', Below w.heap.size w w' → (∃ m, w'.cell? ⟨0, 0, none⟩ = some (.int .i64 m)) ∧ IfaceAt w' "strconv.ErrSyntax" ∧ IfaceAt w' "strconv.ErrRange"

theorem bcell {W w1 : World} (hb : Below W.heap.size W w1) : (∀ b o, b < W.heap.size → w1.cell? ⟨b, o, none⟩ = W.cell? ⟨b, o, none⟩) ∧ (∀ b o, b < W.heap.size → w1.frozen? ⟨b, o, none⟩ = W.frozen? ⟨b, o, none⟩) :=
  ⟨fun b o h => hb.cell (p := ⟨b, o, none⟩) h, fun b o h => hb.frozen (p := ⟨b, o, none⟩) h⟩

set_option maxHeartbeats 400000 in
theorem parse_no (s : ByteArray) (w : World) (hp : Lib.hasPrefix s.data.toList [118] = false) :
    Calls Tryd.prog 9 #[.string s] w fun e w' => e = .returned (keyOf none) ∧ Below w.heap.size w w' := by
  go_enter Tryd.func9, Tryd.ntmps9
  go_wp2_with fail
  refine (Tryd.strings_CutPrefix s { data := #[118] } _).mono ?_
  rintro e w1 ⟨rfl, rfl⟩
  rw [show ({ data := #[118] } : ByteArray).data.toList = [118] from rfl, hp]
  go_wp2_with fail
  refine bodyPost_ret (v := .tuple #[.agg #[.int .i64 0, .int .u64 0, .int .u64 0], .bool false]) (by simp [results, Tryd.results9, go_sem]) rfl ⟨rfl, (Below.refl _ _).alloc (Nat.le_refl _) _⟩

theorem cutB (N b : ByteArray) (bs : List UInt8) (hb : b.data.toList = bs) (hN : N.size ≤ 1048576) (X Y : ByteArray) (f : Bool)
    (h : Lib.cut N.data.toList bs = (X.data.toList, Y.data.toList, f)) (w w0 : World) (hv : Vars w0) (hw : Below w0.heap.size w0 w) :
    Calls Tryd.prog 13 #[.string N, .string b] w fun e w' => e = .returned (.tuple #[.string X, .string Y, .bool f]) ∧ ∃ n, w' = w.drewN n := by
  obtain ⟨⟨m, hm⟩, _⟩ := hv w hw
  have hc := Tryd.strings_Cut N b m w (by omega) hm
  rw [hb, h] at hc
  exact hc

/-- the cells of the key (block B + 1) and of the result (block B) -/
structure Key (B : Nat) (w : World) (st M m : Int) : Prop where
  k0 : w.cell? ⟨B + 1, 0, none⟩ = some (.int .i64 st)
  k1 : w.cell? ⟨B + 1, 1, none⟩ = some (.int .u64 M)
  k2 : w.cell? ⟨B + 1, 2, none⟩ = some (.int .u64 m)
  f0 : w.frozen? ⟨B + 1, 0, none⟩ = false
  f1 : w.frozen? ⟨B + 1, 1, none⟩ = false
  f2 : w.frozen? ⟨B + 1, 2, none⟩ = false
  r0 : w.cell? ⟨B, 0, none⟩ = some (.int .i64 0)
  r1 : w.cell? ⟨B, 1, none⟩ = some (.int .u64 0)
  r2 : w.cell? ⟨B, 2, none⟩ = some (.int .u64 0)
  q0 : w.frozen? ⟨B, 0, none⟩ = false
  q1 : w.frozen? ⟨B, 1, none⟩ = false
  q2 : w.frozen? ⟨B, 2, none⟩ = false
  z : B + 3 < w.heap.size

theorem Key.below {B : Nat} {w w' : World} {st M m : Int} (h : Key B w st M m) (hb : Below w.heap.size w w') : Key B w' st M m := by
  have hz := h.z
  have hs := hb.size
  obtain ⟨hc, hf⟩ := bcell hb
  exact ⟨(hc _ _ (by omega)).trans h.k0, (hc _ _ (by omega)).trans h.k1, (hc _ _ (by omega)).trans h.k2, (hf _ _ (by omega)).trans h.f0, (hf _ _ (by omega)).trans h.f1, (hf _ _ (by omega)).trans h.f2,
    (hc _ _ (by omega)).trans h.r0, (hc _ _ (by omega)).trans h.r1, (hc _ _ (by omega)).trans h.r2, (hf _ _ (by omega)).trans h.q0, (hf _ _ (by omega)).trans h.q1, (hf _ _ (by omega)).trans h.q2, by omega⟩

theorem Key.setMinor {B : Nat} {w : World} {st M m : Int} (h : Key B w st M m) (x : Int) : Key B (w.setCell ⟨B + 1, 2, none⟩ (.int .u64 x)) st M x := by
  have o : ∀ b o, ¬ (b = B + 1 ∧ o = 2) → (w.setCell ⟨B + 1, 2, none⟩ (.int .u64 x)).cell? ⟨b, o, none⟩ = w.cell? ⟨b, o, none⟩ := by
    intro b o hne
    refine World.cell?_setCell_other _ _ _ _ ?_
    intro e
    simp only [Addr.mk.injEq] at e
    exact hne ⟨e.1.symm, e.2.1.symm⟩
  exact ⟨(o _ _ (by omega)).trans h.k0, (o _ _ (by omega)).trans h.k1, World.cell?_setCell_same _ _ _ h.k2, (World.frozen?_setCell _ _ _ _).trans h.f0, (World.frozen?_setCell _ _ _ _).trans h.f1, (World.frozen?_setCell _ _ _ _).trans h.f2,
    (o _ _ (by omega)).trans h.r0, (o _ _ (by omega)).trans h.r1, (o _ _ (by omega)).trans h.r2, (World.frozen?_setCell _ _ _ _).trans h.q0, (World.frozen?_setCell _ _ _ _).trans h.q1, (World.frozen?_setCell _ _ _ _).trans h.q2, by have := h.z; simpa [World.setCell] using this⟩

theorem Key.setStage {B : Nat} {w : World} {st M m : Int} (h : Key B w st M m) (x : Int) : Key B (w.setCell ⟨B + 1, 0, none⟩ (.int .i64 x)) x M m := by
  have o : ∀ b o, ¬ (b = B + 1 ∧ o = 0) → (w.setCell ⟨B + 1, 0, none⟩ (.int .i64 x)).cell? ⟨b, o, none⟩ = w.cell? ⟨b, o, none⟩ := by
    intro b o hne
    refine World.cell?_setCell_other _ _ _ _ ?_
    intro e
    simp only [Addr.mk.injEq] at e
    exact hne ⟨e.1.symm, e.2.1.symm⟩
  exact ⟨World.cell?_setCell_same _ _ _ h.k0, (o _ _ (by omega)).trans h.k1, (o _ _ (by omega)).trans h.k2, (World.frozen?_setCell _ _ _ _).trans h.f0, (World.frozen?_setCell _ _ _ _).trans h.f1, (World.frozen?_setCell _ _ _ _).trans h.f2,
    (o _ _ (by omega)).trans h.r0, (o _ _ (by omega)).trans h.r1, (o _ _ (by omega)).trans h.r2, (World.frozen?_setCell _ _ _ _).trans h.q0, (World.frozen?_setCell _ _ _ _).trans h.q1, (World.frozen?_setCell _ _ _ _).trans h.q2, by have := h.z; simpa [World.setCell] using this⟩

theorem Key.drew {B : Nat} {w : World} {st M m : Int} (h : Key B w st M m) : Key B w.drew st M m :=
  ⟨h.k0, h.k1, h.k2, h.f0, h.f1, h.f2, h.r0, h.r1, h.r2, h.q0, h.q1, h.q2, h.z⟩

theorem Key.drewN {B : Nat} {w : World} {st M m : Int} (h : Key B w st M m) (n : Nat) : Key B (w.drewN n) st M m :=
  ⟨h.k0, h.k1, h.k2, h.f0, h.f1, h.f2, h.r0, h.r1, h.r2, h.q0, h.q1, h.q2, h.z⟩

/-- the world at the loop's first round -/
def W0 (w : World) : World := ((w.alloc (.cells #[.int .i64 0, .int .u64 0, .int .u64 0] 29)).alloc (.cells #[.int .i64 0, .int .u64 0, .int .u64 0] 29)).alloc
  (.cells #[.string { data := #[98, 101, 116, 97] }, .int .i64 1, .string { data := #[97, 108, 112, 104, 97] }, .int .i64 2] 39)

theorem W0_below (w : World) : Below w.heap.size w (W0 w) := (((Below.refl _ _).alloc (Nat.le_refl _) _).alloc (by simp) _).alloc (by simp; omega) _

theorem Key.start (w : World) (o : Obj) : Key w.heap.size ((W0 w).alloc o) 0 0 0 := by
  unfold W0
  exact ⟨by simp [go_sem], by simp [go_sem], by simp [go_sem], by simp [go_sem], by simp [go_sem], by simp [go_sem], by simp [go_sem], by simp [go_sem], by simp [go_sem], by simp [go_sem], by simp [go_sem], by simp [go_sem], by simp⟩


theorem number_noV (s : ByteArray) (hlim : s.size ≤ 1048576) (h : Plain.num s.data.toList = none) (w w0 : World) (hv : Vars w0) (hw : Below w0.heap.size w0 w) :
    Calls Tryd.prog 14 #[.string s] w fun e w' => (∃ u : Int, e = .returned (.tuple #[.int .u64 u, .bool false])) ∧ Below w.heap.size w w' :=
  number_no s hlim h w (hv w hw).2.1 (hv w hw).2.2

theorem Key.start2 (w : World) (o o2 : Obj) (n : Nat) : Key w.heap.size ((((W0 w).alloc o).drewN n).alloc o2) 0 0 0 :=
  ((Key.start w o).drewN n).below ((Below.refl _ _).alloc (Nat.le_refl _) _)

theorem below4 {w W : World} (h : Below w.heap.size w W) (o : Nat) (v0 v1 v2 v3 : Value) :
    Below w.heap.size w ((((W.setCell ⟨w.heap.size + 1, o, none⟩ v0).setCell ⟨w.heap.size, 0, none⟩ v1).setCell ⟨w.heap.size, 1, none⟩ v2).setCell ⟨w.heap.size, 2, none⟩ v3) :=
  (((h.setCell (Nat.le_succ _) _).setCell (Nat.le_refl _) _).setCell (Nat.le_refl _) _).setCell (Nat.le_refl _) _

theorem W1_below (w : World) (o : Obj) : Below w.heap.size w ((W0 w).alloc o) := (W0_below w).alloc (W0_below w).size _
theorem W2_below (w : World) (o o2 : Obj) (n : Nat) : Below w.heap.size w ((((W0 w).alloc o).drewN n).alloc o2) := (below_drewN (W1_below w o) n).alloc (W1_below w o).size _

set_option maxHeartbeats 1000000 in
theorem parse_beta_nominor (s N X Y : ByteArray) (hY : Y.size ≤ 1048576) (hN : N.size ≤ 1048576) (w : World) (hv : Vars w) (hp : Lib.hasPrefix s.data.toList [118] = true)
    (eN : (⟨(Lib.trimPrefix s.data.toList [118]).toArray⟩ : ByteArray) = N) (hc : Lib.cut N.data.toList Plain.beta = (X.data.toList, Y.data.toList, true)) (hm : Plain.num Y.data.toList = none) :
    Calls Tryd.prog 9 #[.string s] w fun e w' => e = .returned (keyOf (none)) ∧ Below w.heap.size w w' := by
  have HN : Hid ((⟨(Lib.trimPrefix s.data.toList [118]).toArray⟩ : ByteArray) = N) := eN
  have HV : Hid (Vars w) := hv
  have HC : Hid (Lib.cut N.data.toList Plain.beta = (X.data.toList, Y.data.toList, true)) := hc
  have Hm : Hid (Plain.num Y.data.toList = none) := hm
  clear eN hv hc hm
  go_enter Tryd.func9, Tryd.ntmps9
  go_wp2_with fail
  refine (Tryd.strings_CutPrefix s { data := #[118] } _).mono ?_
  rintro e w1 ⟨rfl, hw1⟩
  subst hw1
  rw [show ({ data := #[118] } : ByteArray).data.toList = [118] from rfl, hp, HN.out]
  clear HN hp
  go_wp2_with fail
  refine wp_loop_rounds 1 ?_
  rw [rounds_succ]
  go_wp2_with fail
  refine (cutB N { data := #[98, 101, 116, 97] } Plain.beta rfl hN X Y true HC.out _ w HV.out ?_).mono ?_
  · exact W1_below w _
  rintro e w2 ⟨rfl, n, rfl⟩
  go_wp2_with fail
  refine (number_noV Y hY Hm.out _ w HV.out ?_).mono ?_
  · exact below_drewN (W1_below w _) _
  rintro e w3 ⟨⟨u, rfl⟩, hb3⟩
  have K3 : Key w.heap.size w3 0 0 0 := ((Key.start w _).drewN _).below hb3
  have hst : w3.cell? ⟨w.heap.size + 1 + 1 + 1, 1, none⟩ = some (.int .i64 1) := by
    refine (hb3.cell (p := ⟨w.heap.size + 1 + 1 + 1, 1, none⟩) (by simp)).trans ?_
    simp [go_sem]
  have HB3 : Hid (Below w.heap.size w w3) := (below_drewN (W1_below w _) _).trans (hb3.mono (below_drewN (W1_below w _) _).size)
  have HK3 : Hid (Key w.heap.size w3 0 0 0) := K3
  have hz3 : w.heap.size + 1 + 1 + 1 < w3.heap.size := K3.z
  clear hb3
  obtain ⟨k0, k1, k2, f0, f1, f2, r0, r1, r2, q0, q1, q2, hz⟩ := K3
  go_wp2_with fail
  refine bodyPost_ret (v := .tuple #[.agg #[.int .i64 0, .int .u64 0, .int .u64 0], .bool false]) (by simp [results, Tryd.results9, go_sem, r0, r1, r2]) rfl ⟨rfl, ?_⟩
  exact below4 HB3.out _ _ _ _ _

set_option maxHeartbeats 1000000 in
theorem parse_beta_nomajor (s N X Y : ByteArray) (hX : X.size ≤ 1048576) (hY : Y.size ≤ 1048576) (hN : N.size ≤ 1048576) (w : World) (hv : Vars w) (hp : Lib.hasPrefix s.data.toList [118] = true)
    (eN : (⟨(Lib.trimPrefix s.data.toList [118]).toArray⟩ : ByteArray) = N) (hc : Lib.cut N.data.toList Plain.beta = (X.data.toList, Y.data.toList, true)) (m : Nat) (hm : Plain.num Y.data.toList = some m) (hM : Plain.num X.data.toList = none) :
    Calls Tryd.prog 9 #[.string s] w fun e w' => e = .returned (keyOf (none)) ∧ Below w.heap.size w w' := by
  have HN : Hid ((⟨(Lib.trimPrefix s.data.toList [118]).toArray⟩ : ByteArray) = N) := eN
  have HV : Hid (Vars w) := hv
  have HC : Hid (Lib.cut N.data.toList Plain.beta = (X.data.toList, Y.data.toList, true)) := hc
  have Hm : Hid (Plain.num Y.data.toList = some m) := hm
  have HM : Hid (Plain.num X.data.toList = none) := hM
  clear eN hv hc hm hM
  go_enter Tryd.func9, Tryd.ntmps9
  go_wp2_with fail
  refine (Tryd.strings_CutPrefix s { data := #[118] } _).mono ?_
  rintro e w1 ⟨rfl, hw1⟩
  subst hw1
  rw [show ({ data := #[118] } : ByteArray).data.toList = [118] from rfl, hp, HN.out]
  clear HN hp
  go_wp2_with fail
  refine wp_loop_rounds 1 ?_
  rw [rounds_succ]
  go_wp2_with fail
  refine (cutB N { data := #[98, 101, 116, 97] } Plain.beta rfl hN X Y true HC.out _ w HV.out ?_).mono ?_
  · exact W1_below w _
  rintro e w2 ⟨rfl, n, rfl⟩
  go_wp2_with fail
  refine (number_ok Y hY m Hm.out _).mono ?_
  rintro e w3 ⟨rfl, hb3⟩
  have K3 : Key w.heap.size w3 0 0 0 := ((Key.start w _).drewN _).below hb3
  have hst : w3.cell? ⟨w.heap.size + 1 + 1 + 1, 1, none⟩ = some (.int .i64 1) := by
    refine (hb3.cell (p := ⟨w.heap.size + 1 + 1 + 1, 1, none⟩) (by simp)).trans ?_
    simp [go_sem]
  have HB3 : Hid (Below w.heap.size w w3) := (below_drewN (W1_below w _) _).trans (hb3.mono (below_drewN (W1_below w _) _).size)
  have HK3 : Hid (Key w.heap.size w3 0 0 0) := K3
  have hz3 : w.heap.size + 1 + 1 + 1 < w3.heap.size := K3.z
  clear hb3
  obtain ⟨k0, k1, k2, f0, f1, f2, r0, r1, r2, q0, q1, q2, hz⟩ := K3
  go_wp2_with fail
  go_region
  go_wp2_with fail
  refine (number_noV X hX HM.out _ w HV.out ?_).mono ?_
  · exact (((HB3.out).setCell (by simp) _).setCell (by simp) _).drew
  rintro e w4 ⟨⟨u, rfl⟩, hb4⟩
  have K4 : Key w.heap.size w4 1 0 m := (((HK3.out.setMinor m).setStage 1).drew).below hb4
  have HB4 : Hid (Below w.heap.size w w4) := ((((HB3.out).setCell (by simp) _).setCell (by simp) _).drew).trans (hb4.mono (by simp; omega))
  clear k0 k1 k2 f0 f1 f2 r0 r1 r2 q0 q1 q2 hz hst hb4 HB3 HK3 hz3
  obtain ⟨k0, k1, k2, f0, f1, f2, r0, r1, r2, q0, q1, q2, hz⟩ := K4
  go_wp2_with fail
  refine bodyPost_ret (v := .tuple #[.agg #[.int .i64 0, .int .u64 0, .int .u64 0], .bool false]) (by simp [results, Tryd.results9, go_sem, r0, r1, r2]) rfl ⟨rfl, ?_⟩
  exact below4 HB4.out _ _ _ _ _

set_option maxHeartbeats 1000000 in
theorem parse_beta_ok (s N X Y : ByteArray) (hX : X.size ≤ 1048576) (hY : Y.size ≤ 1048576) (hN : N.size ≤ 1048576) (w : World) (hv : Vars w) (hp : Lib.hasPrefix s.data.toList [118] = true)
    (eN : (⟨(Lib.trimPrefix s.data.toList [118]).toArray⟩ : ByteArray) = N) (hc : Lib.cut N.data.toList Plain.beta = (X.data.toList, Y.data.toList, true)) (m : Nat) (hm : Plain.num Y.data.toList = some m) (M : Nat) (hM : Plain.num X.data.toList = some M) :
    Calls Tryd.prog 9 #[.string s] w fun e w' => e = .returned (keyOf (some (1, M, m))) ∧ Below w.heap.size w w' := by
  have HN : Hid ((⟨(Lib.trimPrefix s.data.toList [118]).toArray⟩ : ByteArray) = N) := eN
  have HV : Hid (Vars w) := hv
  have HC : Hid (Lib.cut N.data.toList Plain.beta = (X.data.toList, Y.data.toList, true)) := hc
  have Hm : Hid (Plain.num Y.data.toList = some m) := hm
  have HM : Hid (Plain.num X.data.toList = some M) := hM
  clear eN hv hc hm hM
  go_enter Tryd.func9, Tryd.ntmps9
  go_wp2_with fail
  refine (Tryd.strings_CutPrefix s { data := #[118] } _).mono ?_
  rintro e w1 ⟨rfl, hw1⟩
  subst hw1
  rw [show ({ data := #[118] } : ByteArray).data.toList = [118] from rfl, hp, HN.out]
  clear HN hp
  go_wp2_with fail
  refine wp_loop_rounds 1 ?_
  rw [rounds_succ]
  go_wp2_with fail
  refine (cutB N { data := #[98, 101, 116, 97] } Plain.beta rfl hN X Y true HC.out _ w HV.out ?_).mono ?_
  · exact W1_below w _
  rintro e w2 ⟨rfl, n, rfl⟩
  go_wp2_with fail
  refine (number_ok Y hY m Hm.out _).mono ?_
  rintro e w3 ⟨rfl, hb3⟩
  have K3 : Key w.heap.size w3 0 0 0 := ((Key.start w _).drewN _).below hb3
  have hst : w3.cell? ⟨w.heap.size + 1 + 1 + 1, 1, none⟩ = some (.int .i64 1) := by
    refine (hb3.cell (p := ⟨w.heap.size + 1 + 1 + 1, 1, none⟩) (by simp)).trans ?_
    simp [go_sem]
  have HB3 : Hid (Below w.heap.size w w3) := (below_drewN (W1_below w _) _).trans (hb3.mono (below_drewN (W1_below w _) _).size)
  have HK3 : Hid (Key w.heap.size w3 0 0 0) := K3
  have hz3 : w.heap.size + 1 + 1 + 1 < w3.heap.size := K3.z
  clear hb3
  obtain ⟨k0, k1, k2, f0, f1, f2, r0, r1, r2, q0, q1, q2, hz⟩ := K3
  go_wp2_with fail
  go_region
  go_wp2_with fail
  refine (number_ok X hX M HM.out _).mono ?_
  rintro e w4 ⟨rfl, hb4⟩
  have K4 : Key w.heap.size w4 1 0 m := (((HK3.out.setMinor m).setStage 1).drew).below hb4
  have HB4 : Hid (Below w.heap.size w w4) := ((((HB3.out).setCell (by simp) _).setCell (by simp) _).drew).trans (hb4.mono (by simp; omega))
  clear k0 k1 k2 f0 f1 f2 r0 r1 r2 q0 q1 q2 hz hst hb4 HB3 HK3 hz3
  obtain ⟨k0, k1, k2, f0, f1, f2, r0, r1, r2, q0, q1, q2, hz⟩ := K4
  go_wp2_with fail
  refine bodyPost_ret (v := .tuple #[.agg #[.int .i64 (1 : Nat), .int .u64 M, .int .u64 m], .bool true]) (by simp [results, Tryd.results9, go_sem, r0, r1, r2]) rfl ⟨rfl, ?_⟩
  exact below4 HB4.out _ _ _ _ _

set_option maxHeartbeats 1000000 in
theorem parse_alpha_nominor (s N X Y : ByteArray) (hY : Y.size ≤ 1048576) (hN : N.size ≤ 1048576) (w : World) (hv : Vars w) (hp : Lib.hasPrefix s.data.toList [118] = true)
    (eN : (⟨(Lib.trimPrefix s.data.toList [118]).toArray⟩ : ByteArray) = N) (hc0 : Lib.cut N.data.toList Plain.beta = (N.data.toList, [], false)) (hc : Lib.cut N.data.toList Plain.alpha = (X.data.toList, Y.data.toList, true)) (hm : Plain.num Y.data.toList = none) :
    Calls Tryd.prog 9 #[.string s] w fun e w' => e = .returned (keyOf (none)) ∧ Below w.heap.size w w' := by
  have HN : Hid ((⟨(Lib.trimPrefix s.data.toList [118]).toArray⟩ : ByteArray) = N) := eN
  have HV : Hid (Vars w) := hv
  have HC0 : Hid (Lib.cut N.data.toList Plain.beta = (N.data.toList, [], false)) := hc0
  have HC : Hid (Lib.cut N.data.toList Plain.alpha = (X.data.toList, Y.data.toList, true)) := hc
  have Hm : Hid (Plain.num Y.data.toList = none) := hm
  clear eN hv hc0 hc hm
  go_enter Tryd.func9, Tryd.ntmps9
  go_wp2_with fail
  refine (Tryd.strings_CutPrefix s { data := #[118] } _).mono ?_
  rintro e w1 ⟨rfl, hw1⟩
  subst hw1
  rw [show ({ data := #[118] } : ByteArray).data.toList = [118] from rfl, hp, HN.out]
  clear HN hp
  go_wp2_with fail
  refine wp_loop_rounds 2 ?_
  rw [rounds_succ]
  go_wp2_with fail
  refine (cutB N { data := #[98, 101, 116, 97] } Plain.beta rfl hN N { data := #[] } false HC0.out _ w HV.out ?_).mono ?_
  · exact W1_below w _
  rintro e w2 ⟨rfl, n0, rfl⟩
  go_wp2_with fail
  rw [rounds_succ]
  go_wp2_with fail
  refine (cutB N { data := #[97, 108, 112, 104, 97] } Plain.alpha rfl hN X Y true HC.out _ w HV.out ?_).mono ?_
  · exact W2_below w _ _ _
  rintro e w2 ⟨rfl, n, rfl⟩
  go_wp2_with fail
  refine (number_noV Y hY Hm.out _ w HV.out ?_).mono ?_
  · exact below_drewN (W2_below w _ _ _) _
  rintro e w3 ⟨⟨u, rfl⟩, hb3⟩
  have K3 : Key w.heap.size w3 0 0 0 := ((Key.start2 w _ _ _).drewN _).below hb3
  have hst : w3.cell? ⟨w.heap.size + 1 + 1 + 1 + 1, 1, none⟩ = some (.int .i64 2) := by
    refine (hb3.cell (p := ⟨w.heap.size + 1 + 1 + 1 + 1, 1, none⟩) (by simp)).trans ?_
    simp [go_sem]
  have HB3 : Hid (Below w.heap.size w w3) := (below_drewN (W2_below w _ _ _) _).trans (hb3.mono (below_drewN (W2_below w _ _ _) _).size)
  have HK3 : Hid (Key w.heap.size w3 0 0 0) := K3
  have hz3 : w.heap.size + 1 + 1 + 1 < w3.heap.size := K3.z
  clear hb3
  obtain ⟨k0, k1, k2, f0, f1, f2, r0, r1, r2, q0, q1, q2, hz⟩ := K3
  go_wp2_with fail
  refine bodyPost_ret (v := .tuple #[.agg #[.int .i64 0, .int .u64 0, .int .u64 0], .bool false]) (by simp [results, Tryd.results9, go_sem, r0, r1, r2]) rfl ⟨rfl, ?_⟩
  exact below4 HB3.out _ _ _ _ _

set_option maxHeartbeats 1000000 in
theorem parse_alpha_nomajor (s N X Y : ByteArray) (hX : X.size ≤ 1048576) (hY : Y.size ≤ 1048576) (hN : N.size ≤ 1048576) (w : World) (hv : Vars w) (hp : Lib.hasPrefix s.data.toList [118] = true)
    (eN : (⟨(Lib.trimPrefix s.data.toList [118]).toArray⟩ : ByteArray) = N) (hc0 : Lib.cut N.data.toList Plain.beta = (N.data.toList, [], false)) (hc : Lib.cut N.data.toList Plain.alpha = (X.data.toList, Y.data.toList, true)) (m : Nat) (hm : Plain.num Y.data.toList = some m) (hM : Plain.num X.data.toList = none) :
    Calls Tryd.prog 9 #[.string s] w fun e w' => e = .returned (keyOf (none)) ∧ Below w.heap.size w w' := by
  have HN : Hid ((⟨(Lib.trimPrefix s.data.toList [118]).toArray⟩ : ByteArray) = N) := eN
  have HV : Hid (Vars w) := hv
  have HC0 : Hid (Lib.cut N.data.toList Plain.beta = (N.data.toList, [], false)) := hc0
  have HC : Hid (Lib.cut N.data.toList Plain.alpha = (X.data.toList, Y.data.toList, true)) := hc
  have Hm : Hid (Plain.num Y.data.toList = some m) := hm
  have HM : Hid (Plain.num X.data.toList = none) := hM
  clear eN hv hc0 hc hm hM
  go_enter Tryd.func9, Tryd.ntmps9
  go_wp2_with fail
  refine (Tryd.strings_CutPrefix s { data := #[118] } _).mono ?_
  rintro e w1 ⟨rfl, hw1⟩
  subst hw1
  rw [show ({ data := #[118] } : ByteArray).data.toList = [118] from rfl, hp, HN.out]
  clear HN hp
  go_wp2_with fail
  refine wp_loop_rounds 2 ?_
  rw [rounds_succ]
  go_wp2_with fail
  refine (cutB N { data := #[98, 101, 116, 97] } Plain.beta rfl hN N { data := #[] } false HC0.out _ w HV.out ?_).mono ?_
  · exact W1_below w _
  rintro e w2 ⟨rfl, n0, rfl⟩
  go_wp2_with fail
  rw [rounds_succ]
  go_wp2_with fail
  refine (cutB N { data := #[97, 108, 112, 104, 97] } Plain.alpha rfl hN X Y true HC.out _ w HV.out ?_).mono ?_
  · exact W2_below w _ _ _
  rintro e w2 ⟨rfl, n, rfl⟩
  go_wp2_with fail
  refine (number_ok Y hY m Hm.out _).mono ?_
  rintro e w3 ⟨rfl, hb3⟩
  have K3 : Key w.heap.size w3 0 0 0 := ((Key.start2 w _ _ _).drewN _).below hb3
  have hst : w3.cell? ⟨w.heap.size + 1 + 1 + 1 + 1, 1, none⟩ = some (.int .i64 2) := by
    refine (hb3.cell (p := ⟨w.heap.size + 1 + 1 + 1 + 1, 1, none⟩) (by simp)).trans ?_
    simp [go_sem]
  have HB3 : Hid (Below w.heap.size w w3) := (below_drewN (W2_below w _ _ _) _).trans (hb3.mono (below_drewN (W2_below w _ _ _) _).size)
  have HK3 : Hid (Key w.heap.size w3 0 0 0) := K3
  have hz3 : w.heap.size + 1 + 1 + 1 < w3.heap.size := K3.z
  clear hb3
  obtain ⟨k0, k1, k2, f0, f1, f2, r0, r1, r2, q0, q1, q2, hz⟩ := K3
  go_wp2_with fail
  go_region
  go_wp2_with fail
  refine (number_noV X hX HM.out _ w HV.out ?_).mono ?_
  · exact (((HB3.out).setCell (by simp) _).setCell (by simp) _).drew
  rintro e w4 ⟨⟨u, rfl⟩, hb4⟩
  have K4 : Key w.heap.size w4 2 0 m := (((HK3.out.setMinor m).setStage 2).drew).below hb4
  have HB4 : Hid (Below w.heap.size w w4) := ((((HB3.out).setCell (by simp) _).setCell (by simp) _).drew).trans (hb4.mono (by simp; omega))
  clear k0 k1 k2 f0 f1 f2 r0 r1 r2 q0 q1 q2 hz hst hb4 HB3 HK3 hz3
  obtain ⟨k0, k1, k2, f0, f1, f2, r0, r1, r2, q0, q1, q2, hz⟩ := K4
  go_wp2_with fail
  refine bodyPost_ret (v := .tuple #[.agg #[.int .i64 0, .int .u64 0, .int .u64 0], .bool false]) (by simp [results, Tryd.results9, go_sem, r0, r1, r2]) rfl ⟨rfl, ?_⟩
  exact below4 HB4.out _ _ _ _ _

set_option maxHeartbeats 1000000 in
theorem parse_alpha_ok (s N X Y : ByteArray) (hX : X.size ≤ 1048576) (hY : Y.size ≤ 1048576) (hN : N.size ≤ 1048576) (w : World) (hv : Vars w) (hp : Lib.hasPrefix s.data.toList [118] = true)
    (eN : (⟨(Lib.trimPrefix s.data.toList [118]).toArray⟩ : ByteArray) = N) (hc0 : Lib.cut N.data.toList Plain.beta = (N.data.toList, [], false)) (hc : Lib.cut N.data.toList Plain.alpha = (X.data.toList, Y.data.toList, true)) (m : Nat) (hm : Plain.num Y.data.toList = some m) (M : Nat) (hM : Plain.num X.data.toList = some M) :
    Calls Tryd.prog 9 #[.string s] w fun e w' => e = .returned (keyOf (some (2, M, m))) ∧ Below w.heap.size w w' := by
  have HN : Hid ((⟨(Lib.trimPrefix s.data.toList [118]).toArray⟩ : ByteArray) = N) := eN
  have HV : Hid (Vars w) := hv
  have HC0 : Hid (Lib.cut N.data.toList Plain.beta = (N.data.toList, [], false)) := hc0
  have HC : Hid (Lib.cut N.data.toList Plain.alpha = (X.data.toList, Y.data.toList, true)) := hc
  have Hm : Hid (Plain.num Y.data.toList = some m) := hm
  have HM : Hid (Plain.num X.data.toList = some M) := hM
  clear eN hv hc0 hc hm hM
  go_enter Tryd.func9, Tryd.ntmps9
  go_wp2_with fail
  refine (Tryd.strings_CutPrefix s { data := #[118] } _).mono ?_
  rintro e w1 ⟨rfl, hw1⟩
  subst hw1
  rw [show ({ data := #[118] } : ByteArray).data.toList = [118] from rfl, hp, HN.out]
  clear HN hp
  go_wp2_with fail
  refine wp_loop_rounds 2 ?_
  rw [rounds_succ]
  go_wp2_with fail
  refine (cutB N { data := #[98, 101, 116, 97] } Plain.beta rfl hN N { data := #[] } false HC0.out _ w HV.out ?_).mono ?_
  · exact W1_below w _
  rintro e w2 ⟨rfl, n0, rfl⟩
  go_wp2_with fail
  rw [rounds_succ]
  go_wp2_with fail
  refine (cutB N { data := #[97, 108, 112, 104, 97] } Plain.alpha rfl hN X Y true HC.out _ w HV.out ?_).mono ?_
  · exact W2_below w _ _ _
  rintro e w2 ⟨rfl, n, rfl⟩
  go_wp2_with fail
  refine (number_ok Y hY m Hm.out _).mono ?_
  rintro e w3 ⟨rfl, hb3⟩
  have K3 : Key w.heap.size w3 0 0 0 := ((Key.start2 w _ _ _).drewN _).below hb3
  have hst : w3.cell? ⟨w.heap.size + 1 + 1 + 1 + 1, 1, none⟩ = some (.int .i64 2) := by
    refine (hb3.cell (p := ⟨w.heap.size + 1 + 1 + 1 + 1, 1, none⟩) (by simp)).trans ?_
    simp [go_sem]
  have HB3 : Hid (Below w.heap.size w w3) := (below_drewN (W2_below w _ _ _) _).trans (hb3.mono (below_drewN (W2_below w _ _ _) _).size)
  have HK3 : Hid (Key w.heap.size w3 0 0 0) := K3
  have hz3 : w.heap.size + 1 + 1 + 1 < w3.heap.size := K3.z
  clear hb3
  obtain ⟨k0, k1, k2, f0, f1, f2, r0, r1, r2, q0, q1, q2, hz⟩ := K3
  go_wp2_with fail
  go_region
  go_wp2_with fail
  refine (number_ok X hX M HM.out _).mono ?_
  rintro e w4 ⟨rfl, hb4⟩
  have K4 : Key w.heap.size w4 2 0 m := (((HK3.out.setMinor m).setStage 2).drew).below hb4
  have HB4 : Hid (Below w.heap.size w w4) := ((((HB3.out).setCell (by simp) _).setCell (by simp) _).drew).trans (hb4.mono (by simp; omega))
  clear k0 k1 k2 f0 f1 f2 r0 r1 r2 q0 q1 q2 hz hst hb4 HB3 HK3 hz3
  obtain ⟨k0, k1, k2, f0, f1, f2, r0, r1, r2, q0, q1, q2, hz⟩ := K4
  go_wp2_with fail
  refine bodyPost_ret (v := .tuple #[.agg #[.int .i64 (2 : Nat), .int .u64 M, .int .u64 m], .bool true]) (by simp [results, Tryd.results9, go_sem, r0, r1, r2]) rfl ⟨rfl, ?_⟩
  exact below4 HB4.out _ _ _ _ _

set_option maxHeartbeats 1000000 in
theorem parse_ga_nomajor (s N : ByteArray) (hN : N.size ≤ 1048576) (w : World) (hv : Vars w) (hp : Lib.hasPrefix s.data.toList [118] = true)
    (eN : (⟨(Lib.trimPrefix s.data.toList [118]).toArray⟩ : ByteArray) = N) (hc0 : Lib.cut N.data.toList Plain.beta = (N.data.toList, [], false)) (hc1 : Lib.cut N.data.toList Plain.alpha = (N.data.toList, [], false)) (hM : Plain.num N.data.toList = none) :
    Calls Tryd.prog 9 #[.string s] w fun e w' => e = .returned (keyOf (none)) ∧ Below w.heap.size w w' := by
  have HN : Hid ((⟨(Lib.trimPrefix s.data.toList [118]).toArray⟩ : ByteArray) = N) := eN
  have HV : Hid (Vars w) := hv
  have HC0 : Hid (Lib.cut N.data.toList Plain.beta = (N.data.toList, [], false)) := hc0
  have HC1 : Hid (Lib.cut N.data.toList Plain.alpha = (N.data.toList, [], false)) := hc1
  have HM : Hid (Plain.num N.data.toList = none) := hM
  clear eN hv hc0 hc1 hM
  go_enter Tryd.func9, Tryd.ntmps9
  go_wp2_with fail
  refine (Tryd.strings_CutPrefix s { data := #[118] } _).mono ?_
  rintro e w1 ⟨rfl, hw1⟩
  subst hw1
  rw [show ({ data := #[118] } : ByteArray).data.toList = [118] from rfl, hp, HN.out]
  clear HN hp
  go_wp2_with fail
  refine wp_loop_rounds 3 ?_
  rw [rounds_succ]
  go_wp2_with fail
  refine (cutB N { data := #[98, 101, 116, 97] } Plain.beta rfl hN N { data := #[] } false HC0.out _ w HV.out ?_).mono ?_
  · exact W1_below w _
  rintro e w2 ⟨rfl, n0, rfl⟩
  go_wp2_with fail
  rw [rounds_succ]
  go_wp2_with fail
  refine (cutB N { data := #[97, 108, 112, 104, 97] } Plain.alpha rfl hN N { data := #[] } false HC1.out _ w HV.out ?_).mono ?_
  · exact W2_below w _ _ _
  rintro e w2 ⟨rfl, n, rfl⟩
  go_wp2_with fail
  rw [rounds_succ]
  go_wp2_with fail
  refine (number_noV N hN HM.out _ w HV.out ?_).mono ?_
  · exact below_drewN (W2_below w _ _ _) _
  rintro e w4 ⟨⟨u, rfl⟩, hb4⟩
  have K4 : Key w.heap.size w4 0 0 0 := ((Key.start2 w _ _ _).drewN _).below hb4
  have HB4 : Hid (Below w.heap.size w w4) := (below_drewN (W2_below w _ _ _) _).trans (hb4.mono (below_drewN (W2_below w _ _ _) _).size)
  clear hb4
  obtain ⟨k0, k1, k2, f0, f1, f2, r0, r1, r2, q0, q1, q2, hz⟩ := K4
  go_wp2_with fail
  refine bodyPost_ret (v := .tuple #[.agg #[.int .i64 0, .int .u64 0, .int .u64 0], .bool false]) (by simp [results, Tryd.results9, go_sem, r0, r1, r2]) rfl ⟨rfl, ?_⟩
  exact below4 HB4.out _ _ _ _ _

set_option maxHeartbeats 1000000 in
theorem parse_ga_ok (s N : ByteArray) (hN : N.size ≤ 1048576) (w : World) (hv : Vars w) (hp : Lib.hasPrefix s.data.toList [118] = true)
    (eN : (⟨(Lib.trimPrefix s.data.toList [118]).toArray⟩ : ByteArray) = N) (hc0 : Lib.cut N.data.toList Plain.beta = (N.data.toList, [], false)) (hc1 : Lib.cut N.data.toList Plain.alpha = (N.data.toList, [], false)) (M : Nat) (hM : Plain.num N.data.toList = some M) :
    Calls Tryd.prog 9 #[.string s] w fun e w' => e = .returned (keyOf (some (0, M, 0))) ∧ Below w.heap.size w w' := by
  have HN : Hid ((⟨(Lib.trimPrefix s.data.toList [118]).toArray⟩ : ByteArray) = N) := eN
  have HV : Hid (Vars w) := hv
  have HC0 : Hid (Lib.cut N.data.toList Plain.beta = (N.data.toList, [], false)) := hc0
  have HC1 : Hid (Lib.cut N.data.toList Plain.alpha = (N.data.toList, [], false)) := hc1
  have HM : Hid (Plain.num N.data.toList = some M) := hM
  clear eN hv hc0 hc1 hM
  go_enter Tryd.func9, Tryd.ntmps9
  go_wp2_with fail
  refine (Tryd.strings_CutPrefix s { data := #[118] } _).mono ?_
  rintro e w1 ⟨rfl, hw1⟩
  subst hw1
  rw [show ({ data := #[118] } : ByteArray).data.toList = [118] from rfl, hp, HN.out]
  clear HN hp
  go_wp2_with fail
  refine wp_loop_rounds 3 ?_
  rw [rounds_succ]
  go_wp2_with fail
  refine (cutB N { data := #[98, 101, 116, 97] } Plain.beta rfl hN N { data := #[] } false HC0.out _ w HV.out ?_).mono ?_
  · exact W1_below w _
  rintro e w2 ⟨rfl, n0, rfl⟩
  go_wp2_with fail
  rw [rounds_succ]
  go_wp2_with fail
  refine (cutB N { data := #[97, 108, 112, 104, 97] } Plain.alpha rfl hN N { data := #[] } false HC1.out _ w HV.out ?_).mono ?_
  · exact W2_below w _ _ _
  rintro e w2 ⟨rfl, n, rfl⟩
  go_wp2_with fail
  rw [rounds_succ]
  go_wp2_with fail
  refine (number_ok N hN M HM.out _).mono ?_
  rintro e w4 ⟨rfl, hb4⟩
  have K4 : Key w.heap.size w4 0 0 0 := ((Key.start2 w _ _ _).drewN _).below hb4
  have HB4 : Hid (Below w.heap.size w w4) := (below_drewN (W2_below w _ _ _) _).trans (hb4.mono (below_drewN (W2_below w _ _ _) _).size)
  clear hb4
  obtain ⟨k0, k1, k2, f0, f1, f2, r0, r1, r2, q0, q1, q2, hz⟩ := K4
  go_wp2_with fail
  refine bodyPost_ret (v := .tuple #[.agg #[.int .i64 (0 : Nat), .int .u64 M, .int .u64 (0 : Nat)], .bool true]) (by simp [results, Tryd.results9, go_sem, r0, r1, r2]) rfl ⟨rfl, ?_⟩
  exact below4 HB4.out _ _ _ _ _

end Go.Proofs.Qxb6601736aDoor
