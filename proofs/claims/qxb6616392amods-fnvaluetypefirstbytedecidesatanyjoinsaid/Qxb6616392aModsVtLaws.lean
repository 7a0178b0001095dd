/-
  What the walk of FnValueTypeFirstByteDecidesAtAnyJoin says of a slice of bytes, and laws on it: no Go text in sight.
-/
import Derived.WalkKit
import Derived.ProofKit
import Derived.OpenShut
import Derived.Below
import Derived.Laws.CopyOwn
import Derived.Laws.OwnMore
namespace Go.Proofs.Qxb6616392aMods.fnValueTypeFirstByteDecidesAtAnyJoin
open Go.ChangeShapes Go.WideShapes Go.ChangeAt Go.RowKit

/-- The cells of the numbers A. -/
def X (A : List Int) : List Value := A.map (Value.int .u8)

theorem X_length (A : List Int) : (X A).length = A.length := by simp [X]
theorem X_one (A : List Int) : ∀ u ∈ X A, u.oneCell' = true := ints_oneCell _ _

/-- The slice '.slice p l c' reads in w as the bytes A. -/
def Src (w : World) (p : Option Addr) (l c : Nat) (A : List Int) : Prop :=
  A.length = l ∧ (p = none → l = 0 ∧ c = 0) ∧ ∀ ad, p = some ad → ∀ j u, (X A)[j]? = some u → w.cell? (ad.add j) = some u

theorem lt_of_cell {w : World} {a : Addr} {v : Value} (h : w.cell? a = some v) : a.block < w.heap.size := by
  unfold World.cell? at h
  by_cases hb : a.block < w.heap.size
  · exact hb
  · rw [show w.heap[a.block]? = none from by simp; omega] at h
    simp at h

theorem add_block (a : Addr) (j : Nat) : (a.add j).block = a.block := by
  unfold Addr.add; split <;> rfl

theorem Src.below {w w' : World} {p : Option Addr} {l c : Nat} {A : List Int} (h : Src w p l c A) (hb : Below w.heap.size w w') : Src w' p l c A := by
  refine ⟨h.1, h.2.1, fun ad hp j u hu => ?_⟩
  have hc := h.2.2 ad hp j u hu
  rw [hb.cell (lt_of_cell hc)]
  exact hc

theorem Src.made {w : World} {g l : Nat} {cur : List Value} {A : List Int} (hA : A.length = l) (hcur : cur.length = l)
    (hg : w.heap[g]? = some (.cells (splice cur 0 (X A)).toArray 5 (0, 0))) : Src w (some ⟨g, 0, none⟩) l l A := by
  refine ⟨hA, fun h => by simp at h, fun ad hp j u hu => ?_⟩
  obtain rfl := Option.some.inj hp
  rw [add_plain, Nat.zero_add, cell_of_row w g j _ 5 (0, 0) hg]
  have e : splice cur 0 (X A) = X A := by
    unfold splice
    rw [List.drop_eq_nil_of_le (by rw [X_length]; omega)]
    simp
  rw [e]
  simpa using hu

theorem Src.head {w : World} {p : Option Addr} {l c : Nat} {A : List Int} (h : Src w p l c A) (hl : 0 < l) :
    ∃ b off, p = some ⟨b, off, none⟩ ∧ w.cell? ⟨b, off, none⟩ = some (.int .u8 (A.getD 0 0)) := by
  obtain ⟨hA, hn, hc⟩ := h
  cases p with
  | none => have := (hn rfl).1; omega
  | some ad =>
    have e : (X A)[0]? = some (.int .u8 (A.getD 0 0)) := by
      cases A with
      | nil => simp at hA; omega
      | cons x xs => simp [X]
    have h0 := hc ad rfl 0 _ e
    obtain ⟨b, off, spot⟩ := ad
    have hspot : spot = none := by simpa [Addr.add] using World.cell?_spot h0
    subst hspot
    exact ⟨b, off, rfl, by simpa [Addr.add] using h0⟩

theorem joined_head {w : World} {B g n cap : Nat} {A C : List Int} (h : w.ownsRow B 5 1 (.slice (some ⟨g, 0, none⟩) n cap) n (X A ++ X C)) (hn : 0 < n) :
    w.cell? ⟨g, 0, none⟩ = some (.int .u8 ((A ++ C).getD 0 0)) := by
  rw [h.cellAt 0 (by omega)]
  have hl := h.1
  rw [show X A ++ X C = X (A ++ C) from by simp [X], X_length] at hl
  rw [show X A ++ X C = X (A ++ C) from by simp [X]]
  cases hAC : A ++ C with
  | nil => rw [hAC] at hl; simp at hl; omega
  | cons x xs => simp [X]

theorem head_append {A C : List Int} {l : Nat} (hA : A.length = l) (hl : 0 < l) : (A ++ C).getD 0 0 = A.getD 0 0 := by
  cases A with
  | nil => simp at hA; omega
  | cons x xs => simp

theorem head_append_nil {A C : List Int} (hA : A.length = 0) : (A ++ C).getD 0 0 = C.getD 0 0 := by
  rw [List.eq_nil_of_length_eq_zero hA]; simp

/-- The block that a make has laid. -/
theorem made_block {w : World} {B g n : Nat} {xs : List Value} (h : w.ownsRow B 5 1 (.slice (some ⟨g, 0, none⟩) n n) n xs) :
    ∃ cur : List Value, cur.length = n ∧ w.heap[g]? = some (.cells cur.toArray 5 (0, 0)) := by
  rcases h.2 with ⟨h', _⟩ | ⟨g', cap', cur, h', _, hg, _, _, hsz, _⟩
  · simp at h'
  · simp only [Value.slice.injEq, Option.some.injEq, Addr.mk.injEq, and_true, true_and] at h'
    obtain ⟨rfl, rfl⟩ := h'
    exact ⟨cur.toList, by simpa using hsz, by simpa using hg⟩

end Go.Proofs.Qxb6616392aMods.fnValueTypeFirstByteDecidesAtAnyJoin
