import Derived.Test.Qxb6602520aRows
import Derived.Test.Qxb6602520aLaw
import Derived.ProofKit
import Derived.OpenShut
import Derived.ShutString
import Derived.ChangeOld
import Derived.SliceStrings
namespace Go.Proofs.Qxb6602520a
open Go.ChangeShapes Go.WideShapes Go.ChangeAt Go.RowKit
open Go.ChangeMaps (open_string shut_string)

theorem own : ownKnob Try.prog.godebug = none := by kernel_rfl
theorem laidOut : laidOutB Try.prog = true := by kernel_rfl
theorem Try.cells5 : Try.prog.cellsOf 5 = 1 := by kernel_rfl
theorem Try.cells9 : Try.prog.cellsOf 9 = 1 := by kernel_rfl

theorem byte_of (z : Int) (h : (Lit.int .u8 z).wf = true) : z = (((UInt8.ofNat z.toNat).toNat : Nat) : Int) := by
  have hb := bounds_u8 h
  have : z.toNat < 256 := by omega
  rw [UInt8.toNat_ofNat_of_lt' this]
  omega

theorem lt_of_cell {w : World} {b o : Nat} {v : Value} (h : w.cell? ⟨b, o, none⟩ = some v) : b < w.heap.size := by
  rcases Nat.lt_or_ge b w.heap.size with h' | h'
  · exact h'
  · simp [World.cell?, Array.getElem?_eq_none h'] at h

theorem add_eq (b off j : Nat) : (⟨b, off, none⟩ : Addr).add j = ⟨b, off + j, none⟩ := by cases j <;> simp [Addr.add]

/-- from the cells, as a reader opens them, to the view -/
theorem view_of {W : World} {x : Addr} {n : Nat} {vs : List Value} (hl : vs.length = n) (hc : ∀ j, j < n → W.cell? (x.add j) = vs[j]?) : View W (some x) n vs := by
  refine ⟨hl, fun hn => ?_⟩
  obtain ⟨b, off, spot⟩ := x
  have h0 := hc 0 hn
  rw [List.getElem?_eq_getElem (by omega)] at h0
  have hs : spot = none := by simpa [Addr.add] using World.cell?_spot h0
  subst hs
  rw [add_eq] at h0
  exact ⟨b, off, rfl, lt_of_cell h0, fun j hj => by rw [← add_eq]; exact hc j hj⟩

theorem bytes_view {H : Type} {enc : TypeId × Value → H} {W : World} {ao : Option Addr} {len cap fuel : Nat} {x : DataW H × List MemPlace}
    (hf : DataW.trod enc Try.prog W 0 (fun _ => true) true fuel 28 (Value.cells (.slice ao len cap)).toList = some x) :
    ∃ l : List UInt8, View W ao len (l.map bv) ∧ (ao = none → len = 0 ∧ cap = 0) ∧ len ≤ maxLen := by
  rcases open_ints Try.underlying28 Try.underlying5 Try.cells5 hf with ⟨hcs, _⟩ | ⟨y, l, c, zs, hcs, _, hl, hm, hz, _, hcell, hwz⟩
  · simp [Value.cells] at hcs
    obtain ⟨rfl, rfl, rfl⟩ := hcs
    exact ⟨[], ⟨rfl, fun h => absurd h (Nat.lt_irrefl _)⟩, fun _ => ⟨rfl, rfl⟩, Nat.zero_le _⟩
  · simp [Value.cells] at hcs
    obtain ⟨rfl, rfl, rfl⟩ := hcs
    have hz' : zs.length = cap := by simpa using hz
    refine ⟨(zs.take len).map (fun z => UInt8.ofNat z.toNat), view_of (by simp; omega) ?_, (fun h => by cases h), Nat.le_trans hl hm⟩
    intro j hj
    have hjz : j < zs.length := by omega
    have e : zs.getD j 0 = zs[j] := by rw [List.getD_eq_getElem?_getD, List.getElem?_eq_getElem hjz]; rfl
    rw [hcell j hjz, e, List.getElem?_map, List.getElem?_map, List.getElem?_take, if_pos hj, List.getElem?_eq_getElem hjz]
    show _ = some (Value.int .u8 _)
    rw [← byte_of zs[j] (hwz _ (List.getElem_mem hjz))]

theorem strings_view {H : Type} {enc : TypeId × Value → H} {W : World} {ao : Option Addr} {len cap fuel : Nat} {x : DataW H × List MemPlace}
    (hf : DataW.trod enc Try.prog W 0 (fun _ => true) true fuel 32 (Value.cells (.slice ao len cap)).toList = some x) :
    ∃ l : List ByteArray, View W ao len (l.map sv) ∧ (ao = none → len = 0 ∧ cap = 0) ∧ len ≤ maxLen ∧ ∀ j, (l.getD j ByteArray.empty).size ≤ maxLen := by
  rcases open_strings Try.underlying32 Try.underlying9 Try.cells9 hf with ⟨hcs, _⟩ | ⟨y, l, c, ss, hcs, _, hl, hm, hz, _, hcell, hsz⟩
  · simp [Value.cells] at hcs
    obtain ⟨rfl, rfl, rfl⟩ := hcs
    exact ⟨[], ⟨rfl, fun h => absurd h (Nat.lt_irrefl _)⟩, fun _ => ⟨rfl, rfl⟩, Nat.zero_le _, fun j => Nat.zero_le _⟩
  · simp [Value.cells] at hcs
    obtain ⟨rfl, rfl, rfl⟩ := hcs
    have hz' : ss.length = cap := by simpa using hz
    refine ⟨ss.take len, view_of (by simp; omega) ?_, (fun h => by cases h), Nat.le_trans hl hm, ?_⟩
    · intro j hj
      have hjz : j < ss.length := by omega
      have e : ss.getD j ByteArray.empty = ss[j] := by rw [List.getD_eq_getElem?_getD, List.getElem?_eq_getElem hjz]; rfl
      rw [hcell j hjz, e, List.getElem?_map, List.getElem?_take, if_pos hj, List.getElem?_eq_getElem hjz]
      rfl
    · intro j
      rw [List.getD_eq_getElem?_getD]
      cases h : (ss.take len)[j]? with
      | none => exact Nat.zero_le _
      | some s => exact hsz s (List.mem_of_mem_take (List.mem_of_getElem? h))

set_option maxRecDepth 100000 in
theorem lifted (os : Os) (started : os.Started) (H : Type) (enc : TypeId × Value → H) :
    ReturnsInHanded {} Try.checked os 8 .any (Rows.fnSkipOverBuiltBlanksSpec.pre6 enc Try.prog Try.f8 Rows.fnSkipOverBuiltBlanksRow.domain false) (Rows.fnSkipOverBuiltBlanksSpec.post enc Try.prog Try.f8 false true false false) := by
  refine returnsInHanded_of_change (C := Try.checked) own started (by kernel_rfl) Try.func8
    (ChangeSpec.witness6 (enc := enc) (C := Try.checked) false ⟨#[], #[.string ByteArray.empty, .slice none 0 0, .slice none 0 0, .slice none 0 0, .string ByteArray.empty, .bool false], []⟩ 8 (by kernel_rfl) (by kernel_rfl) (by kernel_rfl) (by kernel_rfl)) ?_
  intro W base args ds gs before hval0 hW hcnd _
  have hval : ∀ (j : Nat) t v, Try.f8.params[j]? = some t → args[j]? = some v → Value.okWide Try.prog W .any base t v := hval0
  have hW' := hW
  obtain ⟨p, q, hA0, hV, rfl, hfz, hnd⟩ := hW
  have hA : DataW.TrodAll enc Try.prog W 0 (fun _ => true) true Try.f8.params.toList args.toList ds p := hA0
  rw [Try.params8] at hA hval
  obtain ⟨v0, vs0, d0, ds0, p0, q0, hargs, rfl, rfl, h0, r0⟩ := trodAll_cons hA
  obtain ⟨v1, vs1, d1, ds1, p1, q1, rfl, rfl, rfl, h1, r1⟩ := trodAll_cons r0
  obtain ⟨v2, vs2, d2, ds2, p2, q2, rfl, rfl, rfl, h2, r2⟩ := trodAll_cons r1
  obtain ⟨v3, vs3, d3, ds3, p3, q3, rfl, rfl, rfl, h3, r3⟩ := trodAll_cons r2
  obtain ⟨v4, vs4, d4, ds4, p4, q4, rfl, rfl, rfl, h4, r4⟩ := trodAll_cons r3
  obtain ⟨v5, vs5, d5, ds5, p5, q5, rfl, rfl, rfl, h5, r5⟩ := trodAll_cons r4
  obtain ⟨rfl, rfl, rfl⟩ := trodAll_nil r5
  obtain rfl : args = #[v0, v1, v2, v3, v4, v5] := by cases args; simp_all
  obtain ⟨rfl, rfl⟩ := trodVars_none hV
  obtain ⟨s0, rfl, rfl, rfl, w0⟩ := open_string Try.underlying9 (hval 0 9 v0 rfl rfl) h0
  obtain ⟨s4, rfl, rfl, rfl, w4⟩ := open_string Try.underlying9 (hval 4 9 v4 rfl rfl) h4
  obtain ⟨b5, rfl, rfl, rfl⟩ := open_bool Try.underlying4 (hval 5 4 v5 rfl rfl) h5
  obtain ⟨ao, len, cap, rfl⟩ := okWide_slice Try.underlying32 (hval 1 32 v1 rfl rfl)
  obtain ⟨a2, len2, cap2, rfl⟩ := okWide_slice Try.underlying28 (hval 2 28 v2 rfl rfl)
  obtain ⟨a3, len3, cap3, rfl⟩ := okWide_slice Try.underlying28 (hval 3 28 v3 rfl rfl)
  have k1 := h1
  have k2 := h2
  have k3 := h3
  have lt1 : ∀ x ∈ p1, x.block < W.heap.size := by obtain ⟨m, hm⟩ := k1; exact DataW.trod_lt m _ _ _ hm
  have lt2 : ∀ x ∈ p2, x.block < W.heap.size := by obtain ⟨m, hm⟩ := k2; exact DataW.trod_lt m _ _ _ hm
  have lt3 : ∀ x ∈ p3, x.block < W.heap.size := by obtain ⟨m, hm⟩ := k3; exact DataW.trod_lt m _ _ _ hm
  obtain ⟨cs, hv1, hz1, hn1, hcs⟩ := (by obtain ⟨f, hf⟩ := h1; exact strings_view hf : ∃ l : List ByteArray, View W ao len (l.map sv) ∧ (ao = none → len = 0 ∧ cap = 0) ∧ len ≤ maxLen ∧ ∀ j, (l.getD j ByteArray.empty).size ≤ maxLen)
  obtain ⟨l2, hv2, hz2, hn2⟩ := (by obtain ⟨f, hf⟩ := h2; exact bytes_view hf : ∃ l : List UInt8, View W a2 len2 (l.map bv) ∧ (a2 = none → len2 = 0 ∧ cap2 = 0) ∧ len2 ≤ maxLen)
  obtain ⟨l3, hv3, hz3, hn3⟩ := (by obtain ⟨f, hf⟩ := h3; exact bytes_view hf : ∃ l : List UInt8, View W a3 len3 (l.map bv) ∧ (a3 = none → len3 = 0 ∧ cap3 = 0) ∧ len3 ≤ maxLen)
  clear hA0 hval0
  refine (law_walk s0 s4 ao a2 a3 len cap len2 cap2 len3 cap3 b5 cs l2 l3 W w0 w4 hn1 hn2 hn3 hcs hv1 hv2 hv3 hz1 hz2 hz3).mono fun e W' ⟨he, bel⟩ => ?_
  subst he
  exact ⟨_, rfl, _, _, _, [], _, [], hW', trodAll_mk1 (shut_bool Try.underlying4 _),
    (trodAll_cons_mk (shut_string Try.underlying9 w0)
      (trodAll_cons_mk (Below.trod laidOut (by kernel_rfl) (of_decide_eq_true (by kernel_rfl)) k1 bel lt1)
        (trodAll_cons_mk (Below.trod laidOut (by kernel_rfl) (of_decide_eq_true (by kernel_rfl)) k2 bel lt2)
          (trodAll_cons_mk (Below.trod laidOut (by kernel_rfl) (of_decide_eq_true (by kernel_rfl)) k3 bel lt3)
            (trodAll_cons_mk (shut_string Try.underlying9 w4)
              (trodAll_cons_mk (shut_bool Try.underlying4 _) trodAll_mk0)))))), rfl, bel.frame _, fun h => by cases h⟩

theorem proved : Rows.FnSkipOverBuiltBlanksSaid :=
  OpenClaim.holds_of_wide 8 Try.f8 rfl rfl rfl rfl rfl rfl rfl ⟨rfl, rfl, rfl, rfl, rfl⟩ rfl rfl rfl rfl rfl (by kernel_rfl) Try.func8 (by kernel_rfl)
    (of_decide_eq_true (by kernel_rfl)) (by unfold Func.isWrapper; first | (rw [if_pos (by decide +kernel)]; kernel_rfl) | (rw [if_neg (by decide +kernel)]; exact ⟨rfl, rfl⟩))
    (fun os started H enc _ => lifted os started H enc)
end Go.Proofs.Qxb6602520a
