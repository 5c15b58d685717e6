/-
  A BLOCK OF THE CALL's OWN THAT HOLDS A ROW OF INTEGERS, said by a function of the place; what a store, a new block, a callee leave of it. No loaded program in sight.
-/
import Derived.Test.YouacwPlain
namespace Go.Proofs.Youacw.Toks
open Go.RowKit

/-- Block g of world w: its first n cells are the integers f 0 .. f (n - 1); it may be written. -/
def Own (w : World) (g n : Nat) (f : Nat → Int) : Prop :=
  g < w.heap.size ∧ (∀ j, j < n → w.cell? ⟨g, j, none⟩ = some (.int .i64 (f j))) ∧ ∀ j, w.frozen? ⟨g, j, none⟩ = false

theorem Own.lt {w : World} {g n : Nat} {f : Nat → Int} (h : Own w g n f) : g < w.heap.size := h.1
theorem Own.cellAt {w : World} {g n : Nat} {f : Nat → Int} (h : Own w g n f) (j : Nat) (hj : j < n) : w.cell? ⟨g, j, none⟩ = some (.int .i64 (f j)) := h.2.1 j hj
theorem Own.free {w : World} {g n : Nat} {f : Nat → Int} (h : Own w g n f) (j : Nat) : w.frozen? ⟨g, j, none⟩ = false := h.2.2 j

theorem Own.same {w : World} {g n m : Nat} {f f' : Nat → Int} (h : Own w g n f) (hm : m ≤ n) (e : ∀ j, j < m → f j = f' j) : Own w g m f' :=
  ⟨h.1, fun j hj => by rw [h.2.1 j (by omega), e j hj], h.2.2⟩

/-- A store into it. -/
theorem Own.put {w : World} {g n : Nat} {f f' : Nat → Int} (h : Own w g n f) (k : Nat) (hk : k < n) (x : Int) (e : ∀ j, j < n → f' j = if j = k then x else f j) : Own (w.setCell ⟨g, k, none⟩ (.int .i64 x)) g n f' := by
  refine ⟨by simpa using h.1, fun j hj => ?_, fun j => by simpa using h.2.2 j⟩
  rw [e j hj]
  by_cases hjk : j = k
  · subst hjk
    rw [if_pos rfl]
    exact World.cell?_setCell_same _ _ _ (h.2.1 j hj)
  · rw [if_neg hjk, World.cell?_setCell_other _ _ _ _ (fun hh => hjk (congrArg Addr.off hh).symm)]
    exact h.2.1 j hj

/-- A store into another block. -/
theorem Own.apart {w : World} {g n : Nat} {f : Nat → Int} (h : Own w g n f) (a : Addr) (u : Value) (ha : a.block ≠ g) : Own (w.setCell a u) g n f := by
  refine ⟨by simpa using h.1, fun j hj => ?_, fun j => by simpa using h.2.2 j⟩
  rw [World.cell?_setCell_other _ _ _ _ (by intro hh; subst hh; exact ha rfl)]
  exact h.2.1 j hj

/-- Whatever leaves old memory alone. -/
theorem Own.later {w w' : World} {g n B : Nat} {f : Nat → Int} (h : Own w g n f) (hb : Below B w w') (hg : g < B) : Own w' g n f := by
  refine ⟨Nat.lt_of_lt_of_le h.1 hb.size, fun j hj => ?_, fun j => ?_⟩
  · rw [hb.cell (p := ⟨g, j, none⟩) hg]; exact h.2.1 j hj
  · rw [hb.frozen (p := ⟨g, j, none⟩) hg]; exact h.2.2 j

/-- A row of zeros that 'make' has laid. -/
theorem own_made {w : World} {base e g n cap : Nat} (h : w.ownsRow base e 1 (.slice (some ⟨g, 0, none⟩) n cap) n (madeCells #[Value.int .i64 0] n).toList) : Own w g n (fun _ => 0) := by
  refine ⟨(h.lt g rfl).2, fun j hj => ?_, fun j => h.frozenAt j⟩
  rw [h.cellAt j (by omega)]
  rw [toList_madeCells_one]
  simp [hj]

/-- A row that appends have laid. -/
theorem own_listed {w : World} {base e g n cap : Nat} {l : List Int} (h : w.ownsRow base e 1 (.slice (some ⟨g, 0, none⟩) n cap) n (l.map (Value.int .i64))) : Own w g n (fun j => l.getD j 0) := by
  have hl : l.length = n := by simpa using h.1
  refine ⟨(h.lt g rfl).2, fun j hj => ?_, fun j => h.frozenAt j⟩
  rw [h.cellAt j (by omega)]
  have hj' : j < l.length := by omega
  simp [hj']

end Go.Proofs.Youacw.Toks
