import Derived.Test.Qxb6602520aBytes
import Derived.Lib.BufferRead
import Derived.Deep.DeepCutAuto
namespace Go.Proofs.Qxb6602520a
open Go.RowKit

/-- the lengths of the first k comments together -/
def sumTo (cs : List ByteArray) : Nat → Nat
  | 0 => 0
  | k + 1 => sumTo cs k + (cs.getD k ByteArray.empty).size

theorem sumTo_le (cs : List ByteArray) (k n : Nat) (h : k ≤ n) : sumTo cs k ≤ sumTo cs n := by
  induction n with
  | zero => have : k = 0 := by omega
            subst this; exact Nat.le_refl _
  | succ n ih =>
    by_cases e : k = n + 1
    · subst e; exact Nat.le_refl _
    · exact Nat.le_trans (ih (by omega)) (Nat.le_add_right _ _)

/-- the slice value v of the call's own holds just the bytes l -/
def Own (B : Nat) (w : World) (v : Value) (l : List UInt8) : Prop := w.ownsRow B 5 1 v l.length (l.map bv)

theorem own_block {B : Nat} {w : World} {v : Value} {l : List UInt8} (h : Own B w v l) : ∀ k, v.ownBlock = some k → B ≤ k := fun k hk => (World.ownsRow.lt h k hk).1

theorem own_one {B : Nat} {w : World} {v : Value} {l : List UInt8} {c : UInt8} (h : w.ownsRow B 5 1 v (l.length + 1) (l.map bv ++ [.int .u8 (c.toNat : Int)])) : Own B w v (l ++ [c]) := by
  unfold Own
  rw [List.length_append, List.map_append]
  exact h

theorem own_three {B : Nat} {w : World} {v : Value} {l : List UInt8} {c : UInt8} (h : w.ownsRow B 5 1 v (l.length + 3) (l.map bv ++ [.int .u8 45, .int .u8 45, .int .u8 (c.toNat : Int)])) : Own B w v (l ++ [45, 45, c]) := by
  unfold Own
  rw [List.length_append, List.map_append]
  exact h

theorem new_one {w : World} (v : Value) (T : TypeId) : ∀ j u, [v][j]? = some u → (w.alloc (.cells #[v] T)).cell? ((⟨w.heap.size, 0, none⟩ : Addr).add j) = some u := by
  intro j u hj
  match j, hj with
  | 0, hj => simp at hj; subst hj; simp [Addr.add]

theorem new_three {w : World} (a b c : Value) (T : TypeId) : ∀ j u, [a, b, c][j]? = some u → (w.alloc (.cells #[a, b, c] T)).cell? ((⟨w.heap.size, 0, none⟩ : Addr).add j) = some u := by
  intro j u hj
  match j, hj with
  | 0, hj => simp at hj; subst hj; simp [Addr.add]
  | 1, hj => simp at hj; subst hj; simp [Addr.add]
  | 2, hj => simp at hj; subst hj; simp [Addr.add]

theorem one_cell (k : IntKind) (n : Int) : ∀ u ∈ [Value.int k n], u.oneCell' = true := by
  intro u hu; simp at hu; subst hu; rfl

theorem three_cell (k : IntKind) (a b c : Int) : ∀ u ∈ [Value.int k a, Value.int k b, Value.int k c], u.oneCell' = true := by
  intro u hu
  simp at hu
  rcases hu with rfl | rfl | rfl <;> rfl

theorem own_string {B : Nat} {w : World} {v : Value} {l : List UInt8} (h : Own B w v l) : (convert 28 9 v).run Try.prog w = .ok (.string ⟨l.toArray⟩) w := by
  have h0 := h
  unfold Own at h0
  rcases h0.2 with ⟨rfl, hl⟩ | ⟨g, cap, cur, rfl, _⟩
  · obtain rfl : l = [] := List.eq_nil_of_length_eq_zero hl
    exact Lib.run_convert_nil_bytes w 28 9 5 0 Try.underlying28 Try.underlying5 Try.underlying9
  · refine run_convert_bytes_back w 28 9 5 ⟨g, 0, none⟩ cap l Try.underlying28 Try.underlying5 Try.underlying9 ?_
    intro j hj
    have hc := World.ownsRow.cellAt h0 j (by omega)
    have e : (⟨g, 0, none⟩ : Addr).add j = ⟨g, j, none⟩ := by cases j <;> simp [Addr.add]
    rw [e, hc, List.getElem?_map, List.getElem?_eq_getElem hj]
    rfl

/-- the blank of comment j -/
def pieceOf (cs : List ByteArray) (l1 l2 : List UInt8) (n : Nat) (dr re : Bool) (j : Nat) : List UInt8 :=
  Plain.piece (l1.getD j 0).toNat (l2.getD j 0).toNat (cs.getD j ByteArray.empty).data.toList (!(dr && decide (j + 1 = n) && re))

def blank (cs : List ByteArray) (l1 l2 : List UInt8) (n : Nat) (dr re : Bool) (k : Nat) : List UInt8 := Plain.blankTo (pieceOf cs l1 l2 n dr re) k

theorem leadL_le (c : Nat) : (Plain.leadL c).length ≤ 1 := by
  unfold Plain.leadL
  repeat (first | (split; (· simp)) | simp)

theorem piece_le (a b : Nat) (c : List UInt8) (nl : Bool) : (Plain.piece a b c nl).length ≤ c.length + 5 := by
  unfold Plain.piece
  have h := leadL_le a
  simp only [List.length_append, List.length_cons, List.length_nil, List.length_map]
  cases nl <;> simp <;> omega

theorem blank_le (cs : List ByteArray) (l1 l2 : List UInt8) (n : Nat) (dr re : Bool) (k : Nat) : (blank cs l1 l2 n dr re k).length ≤ 5 * k + sumTo cs k := by
  induction k with
  | zero => exact Nat.le_refl _
  | succ k ih =>
    have h := piece_le (l1.getD k 0).toNat (l2.getD k 0).toNat (cs.getD k ByteArray.empty).data.toList (!(dr && decide (k + 1 = n) && re))
    rw [← size_len] at h
    show (Plain.blankTo _ k ++ pieceOf cs l1 l2 n dr re k).length ≤ 5 * (k + 1) + (sumTo cs k + _)
    rw [List.length_append]
    have h2 : (pieceOf cs l1 l2 n dr re k).length ≤ (cs.getD k ByteArray.empty).size + 5 := h
    have h3 : (Plain.blankTo (pieceOf cs l1 l2 n dr re) k).length ≤ 5 * k + sumTo cs k := ih
    omega

/-- what a round adds, in the order in which it is added -/
theorem blank_succ (cs : List ByteArray) (l1 l2 : List UInt8) (n : Nat) (dr re : Bool) (k : Nat) :
    blank cs l1 l2 n dr re (k + 1) = (((blank cs l1 l2 n dr re k ++ Plain.leadL (l1.getD k 0).toNat) ++ [45, 45, Plain.innerB (l2.getD k 0).toNat]) ++ (cs.getD k ByteArray.empty).data.toList.map Plain.unl) ++
      (if (!(dr && decide (k + 1 = n) && re)) = true then [10] else []) := by
  show Plain.blankTo _ k ++ pieceOf cs l1 l2 n dr re k = _
  unfold pieceOf Plain.piece
  simp only [List.append_assoc]
  rfl

theorem getD_out (l : List UInt8) (k : Nat) (h : l.length ≤ k) : l.getD k 0 = 0 := by
  rw [List.getD_eq_getElem?_getD, List.getElem?_eq_none h]
  rfl

theorem unl_int (c : UInt8) (h : ((c.toNat : Int) == 10) = false) : Plain.unl c = c := by
  rw [beqc c 10 10 rfl] at h
  unfold Plain.unl
  rw [h]
  rfl

theorem unl_nl (c : UInt8) (h : ((c.toNat : Int) == 10) = true) : Plain.unl c = 32 := by
  rw [beqc c 10 10 rfl] at h
  unfold Plain.unl
  rw [h]
  rfl

theorem own_shape {B : Nat} {w : World} {v : Value} {l : List UInt8} (h : Own B w v l) : ∃ av cv, v = .slice av l.length cv := by
  unfold Own at h
  rcases h.2 with ⟨rfl, hl⟩ | ⟨g, cap, cur, rfl, _⟩
  · exact ⟨none, 0, by rw [hl]⟩
  · exact ⟨_, cap, rfl⟩

theorem append_list (a b : ByteArray) : (a ++ b).data.toList = a.data.toList ++ b.data.toList := by
  rw [ByteArray.data_append, Array.toList_append]

theorem append_size (a b : ByteArray) : (a ++ b).size = a.size + b.size := by
  rw [size_len, append_list, List.length_append, ← size_len, ← size_len]

theorem size_mk (l : List UInt8) : (⟨l.toArray⟩ : ByteArray).size = l.length := by simp [ByteArray.size]

/-- the plain law at this function's pieces -/
theorem law_here (cs : List ByteArray) (l1 l2 : List UInt8) (n : Nat) (dr re : Bool) (r : List UInt8) (hre : re = true → r = []) :
    Plain.Reach (blank cs l1 l2 n dr re n ++ r) r := by
  refine Plain.law (fun j => (l1.getD j 0).toNat) (fun j => (l2.getD j 0).toNat) (fun j => (cs.getD j ByteArray.empty).data.toList) (fun j => !(dr && decide (j + 1 = n) && re)) r n ?_
  intro i _ hnl
  simp only [Bool.not_eq_false', Bool.and_eq_true, decide_eq_true_eq] at hnl
  exact ⟨hnl.1.2, hre hnl.2⟩

/-- where the skipping lands -/
theorem lands (p r : ByteArray) (bl : List UInt8) (S : ByteArray) (hS : S.data.toList = p.data.toList ++ bl ++ r.data.toList) (q : Nat) (hq : q ≤ S.size)
    (h1 : Plain.Reach (S.data.toList.drop p.size) (S.data.toList.drop q)) (h2 : Plain.step (S.data.toList.drop q) = none)
    (h3 : Plain.Reach (bl ++ r.data.toList) r.data.toList) (h4 : Plain.step r.data.toList = none) : q = p.size + bl.length := by
  have e1 : S.data.toList.drop p.size = bl ++ r.data.toList := by
    rw [hS, List.append_assoc, size_len p, List.drop_left]
  rw [e1] at h1
  have e2 := Plain.Reach.unique h1 h2 h3 h4
  have e3 := congrArg List.length e2
  have e4 := congrArg List.length hS
  rw [List.length_drop, ← size_len, ← size_len] at e3
  rw [← size_len, List.length_append, List.length_append, ← size_len, ← size_len] at e4
  omega

end Go.Proofs.Qxb6602520a
