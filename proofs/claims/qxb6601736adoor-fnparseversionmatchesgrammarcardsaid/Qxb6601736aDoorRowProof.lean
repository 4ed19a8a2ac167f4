import Derived.Test.Qxb6601736aDoorLaw
import Derived.ProofKit
import Derived.WalkSmall
import Derived.LaidMore
import Derived.OpenShut
import Derived.ShutString
import Derived.Stop.Joined
import Derived.Stop.LaidErr
namespace Go.Proofs.Qxb6601736aDoor
open Go.ChangeShapes Go.WideShapes Go.ChangeAt Go.RowKit
open Go.ChangeMaps (open_string shut_string)

theorem own : ownKnob Tryd.prog.godebug = none := by kernel_rfl
theorem gErrS : Tryd.prog.globalNamed "strconv.ErrSyntax" = some 1 := by kernel_rfl
theorem gRange : Tryd.prog.globalNamed "strconv.ErrRange" = some 2 := by kernel_rfl
theorem tErrS : (Tryd.prog.globals[1]?).map (·.type) = some 46 := by kernel_rfl
theorem tRange : (Tryd.prog.globals[2]?).map (·.type) = some 46 := by kernel_rfl

/-- a listed variable that reads as an interface value holds one -/
theorem iface_laid {n nm : String} {d : DataW Unit} {r : List (String × DataW Unit)} {W : World} {g : Nat} {ti : TypeId} {ms : Array (String × TypeId)}
    (h : laidMet Tryd.prog ((n, .iface nm d) :: r) W) (hg : Tryd.prog.globalNamed n = some g) (ht : (Tryd.prog.globals[g]?).map (·.type) = some ti) (hi : Tryd.prog.underlying ti = some (.interface ms)) : IfaceAt W n := by
  obtain ⟨ps, ⟨g0, t0, cs0, f0, p0, q0, hg0, ht0, hv0, hd0, _, e0⟩, _, _⟩ := h
  obtain rfl := Option.some.inj (hg.symm.trans hg0)
  obtain rfl := Option.some.inj (ht.symm.trans ht0)
  obtain ⟨f1, u, v, hcs, _, _⟩ := iface_of_trod hi hd0
  obtain ⟨l0⟩ := cs0
  have hl : l0 = [.iface u v] := hcs
  subst hl
  exact ⟨u, v, hv0⟩

theorem lt_of_cell {w : World} {b o : Nat} {v : Value} (h : w.cell? ⟨b, o, none⟩ = some v) : b < w.heap.size := by
  rcases Nat.lt_or_ge b w.heap.size with h' | h'
  · exact h'
  · simp [World.cell?, Array.getElem?_eq_none h'] at h

theorem vars_of {W : World} (hsh : W.ShapedOpen Tryd.prog) (hL : laidMetH Tryd.prog Rows.fnParseVersionMatchesGrammarRow.laid W) : Vars W := by
  rw [MakeChecks.laidMetH_plain _ _ _ (by kernel_rfl)] at hL
  have hR := iface_laid hL.tail.tail.tail gRange tRange Tryd.underlying46
  have hS := iface_laid hL.tail.tail.tail.tail gErrS tErrS Tryd.underlying46
  obtain ⟨m, hm⟩ : ∃ m, W.cell? ⟨0, 0, none⟩ = some (.int .i64 m) := Tryd.laysM145.s1_3 W hsh
  obtain ⟨t1, p1, h1⟩ := hS
  obtain ⟨t2, p2, h2⟩ := hR
  have l1 : 1 < W.heap.size := lt_of_cell (by simpa using World.var?_cell gErrS h1 0)
  have l2 : 2 < W.heap.size := lt_of_cell (by simpa using World.var?_cell gRange h2 0)
  intro w' hb
  exact ⟨⟨m, (hb.cell (p := ⟨0, 0, none⟩) (lt_of_cell hm)).trans hm⟩, ⟨t1, p1, var?_below hb gErrS l1 h1⟩, ⟨t2, p2, var?_below hb gRange l2 h2⟩⟩

/-- the wrap that keeps both the world's shape and the listed variables -/
theorem handed_and_shaped {H : Type} {enc : TypeId × Value → H} {C : Checked} {os : Os} {f : FuncId} {fn : Func} {s : ChangeSpec} {conds : List PathCond} {X : World → Array Value → Prop}
    (hX : ∀ (w w' : World) (args : Array Value), w.heap = w'.heap → X w args → X w' args)
    (hown : ownKnob C.prog.godebug = none) (started : os.Started) (noInit : C.prog.inits.idxOf? f = none) (hfn : C.prog.funcs[f]? = some fn)
    (witness : ∃ (w : World) (tape : Tape) (i : Input), w.os = os ∧ (w.forCall tape i).Shaped C.prog ∧ i.vars = [] ∧ Input.okWide C.prog (w.forCall tape i) .any w.heap.size f i ∧
      ((s.pre enc C.prog fn conds false (w.forCall tape i).memory i.args ∧ X (w.forCall tape i).memory i.args) ∧ sizedMet enc C.prog fn (OpenSpec.ofChange s) false (w.forCall tape i).memory i.args) ∧
      Assume.holds {} C.prog (lone (Frame.enter C.prog f i.args .normal) [] (w.forCall tape i)))
    (contract : ∀ (W : World) (base : Nat) (args : Array Value) (ds gs : List (DataW H)) (before : List MemPlace),
      (∀ (j : Nat) t v, fn.params[j]? = some t → args[j]? = some v → Value.okWide C.prog W .any base t v) →
      DataW.Whole enc C.prog fn.params.toList s.vars false W args.toList ds gs before → W.ShapedOpen C.prog → X W args →
      Calls C.prog f args W fun e W' => ∃ v, e = .returned v ∧ s.post enc C.prog fn false true false false W args v W') :
    ReturnsInHanded {} C os f .any (fun w args => (s.pre enc C.prog fn conds false w args ∧ X w args) ∧ sizedMet enc C.prog fn (OpenSpec.ofChange s) false w args) (s.post enc C.prog fn false true false false) := by
  refine returnsInHanded_of_calls hown started noInit witness ?_
  intro w tape i _ hsh _ hok hpre _
  obtain ⟨_, _, _, fn', hfn', _, _, _, _, hval⟩ := hok
  have e : fn' = fn := Option.some.inj (hfn'.symm.trans hfn)
  subst e
  obtain ⟨⟨⟨ds, gs, before, hw, _⟩, hx⟩, _⟩ := hpre
  have hw' := DataW.Whole.of_heap (w' := w.forCall tape i) (by rfl) hw
  refine (contract (w.forCall tape i) w.heap.size i.args ds gs before hval hw' hsh (hX _ _ _ (by rfl) hx)).mono fun e W' ⟨v, he, hp⟩ => ?_
  subst he
  exact ChangeSpec.post_blind hp

theorem door_met (os : Os) (args : Array Value) : laidMetH Tryd.prog Rows.fnParseVersionMatchesGrammarRow.laid ((World.doorLaid Tryd.prog 62 os).forCall (fun _ _ => 0) ⟨#[], args, []⟩).memory :=
  laidMetH_of_parts3 (fuel := 8) (laidMet_of_run' 8 (by kernel_rfl) (by kernel_rfl)) (by kernel_rfl) (by kernel_rfl)

set_option maxRecDepth 100000 in
theorem lifted (os : Os) (started : os.Started) (H : Type) (enc : TypeId × Value → H) :
    ReturnsInHanded {} Tryd.checked os 3 .any
      (fun w args => (Rows.fnParseVersionMatchesGrammarSpec.pre enc Tryd.prog Tryd.f3 [] false w args ∧ laidMetH Tryd.prog Rows.fnParseVersionMatchesGrammarRow.laid w) ∧ sizedMet enc Tryd.prog Tryd.f3 (OpenSpec.ofChange Rows.fnParseVersionMatchesGrammarSpec) false w args)
      (Rows.fnParseVersionMatchesGrammarSpec.post enc Tryd.prog Tryd.f3 false true false false) := by
  refine handed_and_shaped (C := Tryd.checked) (X := fun w _ => laidMetH Tryd.prog Rows.fnParseVersionMatchesGrammarRow.laid w) (fun _ _ _ hh h => h.of_heap hh) own started (by kernel_rfl) Tryd.func3
    (ChangeSpec.witness_shaped (enc := enc) (C := Tryd.checked) (os := os) (X := fun w _ => laidMetH Tryd.prog Rows.fnParseVersionMatchesGrammarRow.laid w) false (World.doorLaid Tryd.prog 62 os) #[.string ByteArray.empty] 8 rfl
      (World.shaped_of_RefB (by kernel_rfl) (by kernel_rfl)) (by kernel_rfl) (by kernel_rfl) (by kernel_rfl) (door_met os _)) ?_
  intro W base args ds gs before hval0 hW hsh hL
  have hval : ∀ (j : Nat) t v, Tryd.f3.params[j]? = some t → args[j]? = some v → Value.okWide Tryd.prog W .any base t v := hval0
  have hW' := hW
  obtain ⟨p, q, hA0, hV, rfl, hfz, hnd⟩ := hW
  have hA : DataW.TrodAll enc Tryd.prog W 0 (fun _ => true) true Tryd.f3.params.toList args.toList ds p := hA0
  rw [Tryd.params3] at hA hval
  obtain ⟨v0, d0, rfl, rfl, h0⟩ := trodAll_one hA
  obtain ⟨rfl, rfl⟩ := trodVars_none hV
  obtain ⟨a0, rfl, rfl, rfl, w0⟩ := open_string Tryd.underlying9 (hval 0 9 v0 rfl rfl) h0
  clear hA0 hval0
  simp only [List.append_nil] at hW'
  refine (law_walk a0 w0 W (vars_of hsh hL)).mono fun e W' ⟨he, hb⟩ => ?_
  subst he
  exact ⟨_, rfl, _, _, _, [], _, [], hW', trodAll_mk1 (shut_bool Tryd.underlying4 _), trodAll_mk1 (shut_string Tryd.underlying9 w0), rfl, hb.frame _, fun h => by cases h⟩

theorem row_holds : Rows.FnParseVersionMatchesGrammarSaid :=
  OpenClaim.holds_of_wide 3 Tryd.f3 rfl rfl rfl rfl rfl rfl rfl ⟨rfl, rfl, rfl, rfl, rfl⟩ rfl rfl rfl rfl rfl (by kernel_rfl) Tryd.func3 (by kernel_rfl)
    (of_decide_eq_true (by kernel_rfl)) (by unfold Func.isWrapper; first | (rw [if_pos (by decide +kernel)]; kernel_rfl) | (rw [if_neg (by decide +kernel)]; exact ⟨rfl, rfl⟩))
    (fun os started H enc _ => lifted os started H enc)
end Go.Proofs.Qxb6601736aDoor
