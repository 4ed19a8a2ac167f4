import Derived.Test.Qxb6601736aDoorShelf
import Derived.Test.Qxb6601736aDoorModel2
import Derived.Deep.QuietTactic
import Derived.BigQuiet
namespace Go.Proofs.Qxb6601736aDoor
open Go.RowKit Go.Shelf

/-- a package-level variable holds an interface value -/
def IfaceAt (w : World) (n : String) : Prop := ∃ tp p, w.var? Tryd.prog n = some #[.iface tp p]

theorem pu_ok (s : ByteArray) (hlim : s.size ≤ 1048576) (u : Nat) (h : Lib.parseUintB 64 s.data.toList = .ok u) (w : World) :
    Calls Tryd.prog 17 #[.string s, .int .i64 10, .int .i64 64] w fun e w' => e = .returned (.tuple #[.int .u64 u, .nilIface]) ∧ Below w.heap.size w w' := by
  have hc := Any.strconv_ParseUint_10_at64_ok Tryd.laysPu14 s (by omega) u h w
  refine hc.mono ?_
  rintro e w' ⟨he, hw⟩
  refine ⟨he, ?_⟩
  rcases hw with rfl | rfl
  · exact Below.refl _ _
  · exact Lib.bytesWorld_below _ _ _

theorem pu_no (s : ByteArray) (hlim : s.size ≤ 1048576) (h : ∀ u, Lib.parseUintB 64 s.data.toList ≠ .ok u) (w : World) (h1 : IfaceAt w "strconv.ErrSyntax") (h2 : IfaceAt w "strconv.ErrRange") :
    Calls Tryd.prog 17 #[.string s, .int .i64 10, .int .i64 64] w fun e w' => ∃ (u : Int) (N : Nat), e = .returned (.tuple #[.int .u64 u, .iface (Tryd.laysPu14_ren.t 39) (.pointer (some ⟨N, 0, none⟩))]) ∧ Below w.heap.size w w' := by
  obtain ⟨t1, p1, hv1⟩ := h1
  obtain ⟨t2, p2, hv2⟩ := h2
  cases hp : Lib.parseUintB 64 s.data.toList
  · exact absurd hp (h _)
  · have hc := Any.strconv_ParseUint_10_at64_syntax_var Tryd.laysPu14 s (by omega) hp t1 p1 w hv1
    refine hc.mono ?_
    rintro e w' ⟨N, he, _, _, hb⟩
    exact ⟨_, N, he, hb⟩
  · have hc := Any.strconv_ParseUint_10_at64_range_var Tryd.laysPu14 s (by omega) hp t2 p2 w hv2
    refine hc.mono ?_
    rintro e w' ⟨N, he, _, _, hb⟩
    exact ⟨_, N, he, hb⟩

theorem num_some (l : List UInt8) (u : Nat) (h : Plain.num l = some u) : Lib.parseUintB 64 l = .ok u := by
  unfold Plain.num at h
  split at h
  · rename_i v hv; rw [hv]; simp at h; rw [h]
  · cases h

theorem num_none (l : List UInt8) (h : Plain.num l = none) : ∀ u, Lib.parseUintB 64 l ≠ .ok u := by
  intro u hu
  unfold Plain.num at h
  rw [hu] at h
  cases h

set_option maxHeartbeats 400000 in
theorem number_ok (s : ByteArray) (hlim : s.size ≤ 1048576) (u : Nat) (h : Plain.num s.data.toList = some u) (w : World) :
    Calls Tryd.prog 14 #[.string s] w fun e w' => e = .returned (.tuple #[.int .u64 u, .bool true]) ∧ Below w.heap.size w w' := by
  have HU : Hid (Lib.parseUintB 64 s.data.toList = .ok u) := num_some _ _ h
  clear h
  go_enter Tryd.func14, Tryd.ntmps14
  go_wp2_with fail
  refine (pu_ok s hlim u HU.out _).mono ?_
  rintro e w1 ⟨rfl, hb⟩
  go_wp2_with fail
  go_quiet (fail)
  go_wp2
  go_ret2
  exact ⟨rfl, below_drewN hb _⟩

set_option maxHeartbeats 400000 in
theorem number_no (s : ByteArray) (hlim : s.size ≤ 1048576) (h : Plain.num s.data.toList = none) (w : World) (h1 : IfaceAt w "strconv.ErrSyntax") (h2 : IfaceAt w "strconv.ErrRange") :
    Calls Tryd.prog 14 #[.string s] w fun e w' => (∃ u : Int, e = .returned (.tuple #[.int .u64 u, .bool false])) ∧ Below w.heap.size w w' := by
  have HC := pu_no s hlim (num_none _ h) w h1 h2
  have HC' : Hid (Calls Tryd.prog 17 #[.string s, .int .i64 10, .int .i64 64] w fun e w' => ∃ (u : Int) (N : Nat), e = .returned (.tuple #[.int .u64 u, .iface 57 (.pointer (some ⟨N, 0, none⟩))]) ∧ Below w.heap.size w w') := HC
  clear h h1 h2 HC
  go_enter Tryd.func14, Tryd.ntmps14
  go_wp2_with fail
  refine HC'.out.mono ?_
  rintro e w1 ⟨u, N, rfl, hb⟩
  clear HC'
  go_wp2_with fail
  go_quiet (fail)
  go_wp2
  go_ret2
  exact ⟨⟨u, rfl⟩, below_drewN hb _⟩
end Go.Proofs.Qxb6601736aDoor
