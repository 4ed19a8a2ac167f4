import Derived.Test.Qxb6603363aRows
import Derived.Test.Qxb6603363aValid
import Derived.HandedShaped
import Derived.WalkKit
import Derived.ProofKit
import Derived.OpenShut
import Derived.ShutString
namespace Go.Proofs.Qxb6603363a.fnValidTracestateMemberMatchesAutomaton
open Go.ChangeShapes Go.WideShapes Go.ChangeAt Go.RowKit
open Go.ChangeMaps (open_string shut_string)
set_option linter.unusedVariables false

theorem own : ownKnob Try.prog.godebug = none := by kernel_rfl

theorem cut_le (l : List UInt8) : (Lib.cut l [61]).1.length ≤ l.length ∧ (Lib.cut l [61]).2.1.length ≤ l.length := by
  unfold Lib.cut
  split
  · exact ⟨by rw [List.length_take]; omega, by rw [List.length_drop]; omega⟩
  · exact ⟨Nat.le_refl _, Nat.zero_le _⟩

theorem size_mk (l : List UInt8) : (⟨l.toArray⟩ : ByteArray).size = l.length := by simp [ByteArray.size]

theorem zz_any (s : ByteArray) (w : World) (hsh : w.ShapedOpen Try.prog) (hs : s.size ≤ 1048576) :
    Calls Try.prog 26 #[.string s] w fun e w' => e = .returned (.bool (Plain.au0 s.data.toList)) ∧ ∃ n, w' = w.drewN n := by
  have h1 := cut_le s.data.toList
  have h2 := size_len s
  have h := valid_any s _ _ w hsh hs rfl rfl (by rw [size_mk]; omega) (by rw [size_mk]; omega)
  have e := Plain.agree s.data.toList
  rw [← e]
  exact h

theorem grown_drewN (w : World) (n : Nat) : Grown w (w.drewN n) := Grown.refl w

set_option maxHeartbeats 400000 in
theorem zzv_any (s : ByteArray) (w : World) (hsh : w.ShapedOpen Try.prog) (hs : s.size ≤ 1048576) :
    Calls Try.prog 17 #[.string s] w fun e w' => e = .returned (.bool (Plain.au0 s.data.toList)) ∧ ∃ n, w' = w.drewN n := by
  have HSH : Hid (w.ShapedOpen Try.prog) := hsh
  clear hsh
  go_enter Try.func17, Try.ntmps17
  go_wp2_with (go_at_call 26; refine (zz_any _ _ HSH.out hs).mono ?_; rintro e w' ⟨rfl, n, rfl⟩)
  go_ret
  exact ⟨rfl, n, rfl⟩

set_option maxHeartbeats 400000 in
theorem walk (a0 : ByteArray) (w0 : a0.size ≤ maxLen) (w : World) (hsh : w.ShapedOpen Try.prog) :
    Calls Try.prog 5 #[.string a0] w fun e w' => e = .returned (.bool true) ∧ Grown w w' := by
  have HSH : Hid (w.ShapedOpen Try.prog) := hsh
  clear hsh
  by_cases h : a0.size ≤ 1048576
  · have hd : decide (a0.size ≤ 1048576) = true := by simpa using h
    have hw : a0.size ≤ maxLen := w0
    go_enter Try.func5, Try.ntmps5
    go_wp2_with (go_at_call 16; refine (bytes_any _ _ hw).mono ?_; rintro e w' ⟨rfl, rfl⟩)
    refine (zzv_any _ _ HSH.out h).mono ?_
    rintro e w' ⟨rfl, n, rfl⟩
    go_wp2_with (go_at_call 18; refine (auto_any _ _ hw).mono ?_; rintro e w' ⟨rfl, rfl⟩)
    go_ret
    exact ⟨ret_bool (by simp), grown_drewN _ _⟩
  · have hd : decide (a0.size ≤ 1048576) = false := by simpa using h
    go_enter Try.func5, Try.ntmps5
    go_wp2_with (go_at_call 16; refine (bytes_any _ _ w0).mono ?_; rintro e w' ⟨rfl, rfl⟩)
    go_ret
    exact ⟨rfl, Grown.refl _⟩

set_option maxRecDepth 100000 in
theorem lifted (os : Os) (started : os.Started) (H : Type) (enc : TypeId × Value → H) :
    ReturnsInHanded {} Try.checked os 5 .any (Rows.fnValidTracestateMemberMatchesAutomatonSpec.pre6 enc Try.prog Try.f5 Rows.fnValidTracestateMemberMatchesAutomatonRow.domain false) (Rows.fnValidTracestateMemberMatchesAutomatonSpec.post enc Try.prog Try.f5 false true false false) := by
  refine returnsInHanded_of_change_shaped (C := Try.checked) own started (by kernel_rfl) Try.func5
    (ChangeSpec.witness6 (enc := enc) (C := Try.checked) false ⟨#[], #[.string ByteArray.empty], []⟩ 8 (by kernel_rfl) (by kernel_rfl) (by kernel_rfl) (by kernel_rfl)) ?_
  intro W base args ds gs before hval0 hW hcnd _ hsh _
  have hval : ∀ (j : Nat) t v, Try.f5.params[j]? = some t → args[j]? = some v → Value.okWide Try.prog W .any base t v := hval0
  have hW' := hW
  obtain ⟨p, q, hA0, hV, rfl, hfz, hnd⟩ := hW
  have hA : DataW.TrodAll enc Try.prog W 0 (fun _ => true) true Try.f5.params.toList args.toList ds p := hA0
  rw [Try.params5] at hA hval
  obtain ⟨v0, vs0, d0, ds0, p0, q0, hargs, rfl, rfl, h0, r0⟩ := trodAll_cons hA
  obtain ⟨rfl, rfl, rfl⟩ := trodAll_nil r0
  obtain rfl : args = #[v0] := by cases args; simp_all
  obtain ⟨rfl, rfl⟩ := trodVars_none hV
  obtain ⟨a0, rfl, rfl, rfl, w0⟩ := open_string Try.underlying9 (hval 0 9 v0 rfl rfl) h0
  clear hA0 hval0
  simp only [List.append_nil] at hW'
  refine (walk a0 w0 W hsh).mono fun e W' ⟨he, hg⟩ => ?_
  subst he
  exact ⟨_, rfl, post_of_same (pa := []) (pv := []) hW' (fun _ _ _ => (trodAll_cons_mk (shut_bool Try.underlying4 _) trodAll_mk0)) (fun sp _ => (trodAll_cons_mk (shut_string Try.underlying9 w0) trodAll_mk0)) (fun _ _ => rfl) rfl
    (hg.frame _) hg.2.1 (ok_one (by kernel_rfl) rfl (okWide_bool_mk Try.underlying4 _))⟩

theorem over : Rows.fnValidTracestateMemberMatchesAutomatonRow.holds Try.pinned (OpenSpec.ofChange Rows.fnValidTracestateMemberMatchesAutomatonSpec) :=
  OpenClaim.holds_of_wide 5 Try.f5 rfl rfl rfl rfl rfl rfl rfl ⟨rfl, rfl, rfl, rfl, rfl⟩ rfl rfl rfl rfl rfl (by kernel_rfl) Try.func5 (by kernel_rfl)
    (of_decide_eq_true (by kernel_rfl)) (by unfold Func.isWrapper; first | (rw [if_pos (by decide +kernel)]; kernel_rfl) | (rw [if_neg (by decide +kernel)]; exact ⟨rfl, rfl⟩))
    (fun os started H enc _ => lifted os started H enc)

theorem proved : Rows.FnValidTracestateMemberMatchesAutomatonSaid :=
  over
end Go.Proofs.Qxb6603363a.fnValidTracestateMemberMatchesAutomaton
