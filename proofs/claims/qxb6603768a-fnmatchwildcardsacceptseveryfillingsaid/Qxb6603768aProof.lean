import Derived.Test.Qxb6603768aRows
import Derived.Test.Qxb6603768aBuild
import Derived.Test.Qxb6603768aMatch
import Derived.HandedShaped
import Derived.WalkKit
import Derived.ProofKit
import Derived.OpenShut
import Derived.ShutString
namespace Go.Proofs.Qxb6603768a.fnMatchWildcardsAcceptsEveryFilling
open Go.ChangeShapes Go.WideShapes Go.ChangeAt Go.RowKit
open Go.ChangeMaps (open_string shut_string)
set_option linter.unusedVariables false

theorem own : ownKnob Try.prog.godebug = none := by kernel_rfl

theorem lt_of_cell {w : World} {b o : Nat} {v : Value} (h : w.cell? ⟨b, o, none⟩ = some v) : b < w.heap.size := by
  rcases Nat.lt_or_ge b w.heap.size with h' | h'
  · exact h'
  · simp [World.cell?, Array.getElem?_eq_none h'] at h

set_option maxHeartbeats 400000 in
theorem zz_any (t s : ByteArray) (F : List UInt8) (w : World) (hm : MaxAt w) (ht : t.size ≤ 1048576) (hs : s.size ≤ 1048576)
    (hst : 42 ∈ t.data.toList) (hsub : s.data.toList = Plain.subst F t.data.toList) :
    Calls Try.prog 9 #[.string t, .string s] w fun e w' => e = .returned (.bool true) ∧ ∃ n, w' = w.drewN n := by
  have HC : Hid (Calls Try.prog 21 #[.string t, .string s] w fun e w' => e = .returned (.bool true) ∧ ∃ n, w' = w.drewN n) := match_any t s F w hm ht hs hst hsub
  clear hm hst hsub
  go_enter Try.func9, Try.ntmps9
  go_wp2_with fail
  refine HC.out.mono ?_
  rintro e w1 ⟨rfl, n, hw1⟩
  subst hw1
  go_wp2
  go_ret
  exact ⟨rfl, n, rfl⟩

theorem walk (a0 a1 : ByteArray) (w0 : a0.size ≤ maxLen) (w1 : a1.size ≤ maxLen) (w : World) (hsh : w.ShapedOpen Try.prog) :
    Calls Try.prog 4 #[.string a0, .string a1] w fun e w' => e = .returned (.bool true) ∧ Below w.heap.size w w' := by
  obtain ⟨m, hm⟩ : ∃ m, w.cell? ⟨0, 0, none⟩ = some (.int .i64 m) := Try.laysM145.s1_3 w hsh
  refine law_walk a0 a1 w w0 w1 ?_
  intro s w' hb hsub hst ht hs
  have hm' : MaxAt w' := ⟨m, (hb.cell (p := ⟨0, 0, none⟩) (lt_of_cell hm)).trans hm⟩
  refine (zz_any a0 s _ w' hm' ht hs hst hsub).mono ?_
  rintro e w'' ⟨he, n, rfl⟩
  exact ⟨he, below_drewN hb n⟩

set_option maxRecDepth 100000 in
theorem lifted (os : Os) (started : os.Started) (H : Type) (enc : TypeId × Value → H) :
    ReturnsInHanded {} Try.checked os 4 .any (Rows.fnMatchWildcardsAcceptsEveryFillingSpec.pre6 enc Try.prog Try.f4 Rows.fnMatchWildcardsAcceptsEveryFillingRow.domain false) (Rows.fnMatchWildcardsAcceptsEveryFillingSpec.post enc Try.prog Try.f4 false true false false) := by
  refine returnsInHanded_of_change_shaped (C := Try.checked) own started (by kernel_rfl) Try.func4
    (ChangeSpec.witness6 (enc := enc) (C := Try.checked) false ⟨#[], #[.string ByteArray.empty, .string ByteArray.empty], []⟩ 8 (by kernel_rfl) (by kernel_rfl) (by kernel_rfl) (by kernel_rfl)) ?_
  intro W base args ds gs before hval0 hW hcnd _ hsh _
  have hval : ∀ (j : Nat) t v, Try.f4.params[j]? = some t → args[j]? = some v → Value.okWide Try.prog W .any base t v := hval0
  have hW' := hW
  obtain ⟨p, q, hA0, hV, rfl, hfz, hnd⟩ := hW
  have hA : DataW.TrodAll enc Try.prog W 0 (fun _ => true) true Try.f4.params.toList args.toList ds p := hA0
  rw [Try.params4] at hA hval
  obtain ⟨v0, vs0, d0, ds0, p0, q0, hargs, rfl, rfl, h0, r0⟩ := trodAll_cons hA
  obtain ⟨v1, vs1, d1, ds1, p1, q1, rfl, rfl, rfl, h1, r1⟩ := trodAll_cons r0
  obtain ⟨rfl, rfl, rfl⟩ := trodAll_nil r1
  obtain rfl : args = #[v0, v1] := by cases args; simp_all
  obtain ⟨rfl, rfl⟩ := trodVars_none hV
  obtain ⟨a0, rfl, rfl, rfl, w0⟩ := open_string Try.underlying9 (hval 0 9 v0 rfl rfl) h0
  obtain ⟨a1, rfl, rfl, rfl, w1⟩ := open_string Try.underlying9 (hval 1 9 v1 rfl rfl) h1
  clear hA0 hval0
  simp only [List.append_nil] at hW'
  refine (walk a0 a1 w0 w1 W hsh).mono fun e W' ⟨he, hb⟩ => ?_
  subst he
  exact ⟨_, rfl, _, _, _, [], _, [], hW', trodAll_mk1 (shut_bool Try.underlying4 _), trodAll_mk2 (shut_string Try.underlying9 w0) (shut_string Try.underlying9 w1), rfl, hb.frame _, fun h => by cases h⟩

theorem over : Rows.fnMatchWildcardsAcceptsEveryFillingRow.holds Try.pinned (OpenSpec.ofChange Rows.fnMatchWildcardsAcceptsEveryFillingSpec) :=
  OpenClaim.holds_of_wide 4 Try.f4 rfl rfl rfl rfl rfl rfl rfl ⟨rfl, rfl, rfl, rfl, rfl⟩ rfl rfl rfl rfl rfl (by kernel_rfl) Try.func4 (by kernel_rfl)
    (of_decide_eq_true (by kernel_rfl)) (by unfold Func.isWrapper; first | (rw [if_pos (by decide +kernel)]; kernel_rfl) | (rw [if_neg (by decide +kernel)]; exact ⟨rfl, rfl⟩))
    (fun os started H enc _ => lifted os started H enc)

theorem proved : Rows.FnMatchWildcardsAcceptsEveryFillingSaid :=
  over
end Go.Proofs.Qxb6603768a.fnMatchWildcardsAcceptsEveryFilling
