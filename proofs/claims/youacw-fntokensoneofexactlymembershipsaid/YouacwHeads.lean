/-
  zzCloneInts over whatever slice comes in; the two bounds 'zzBytes_..' (5, 8).
-/
import Derived.Test.YouacwToks
namespace Go.Proofs.Youacw.Toks
open Go.RowKit

/-- A slice that came in: nil, or n elements f 0 .. f (n - 1). -/
def In (w : World) (a : Option Addr) (n c : Nat) (f : Nat → Int) : Prop :=
  (a = none ∧ n = 0 ∧ c = 0) ∨ ∃ x, a = some x ∧ ∀ j, j < n → w.cell? (x.add j) = some (.int .i64 (f j))

theorem In.later {w w' : World} {a : Option Addr} {n c : Nat} {f : Nat → Int} (h : In w a n c f) (hb : Below w.heap.size w w') : In w' a n c f := by
  rcases h with h | ⟨x, rfl, h⟩
  · exact .inl h
  · exact .inr ⟨x, rfl, fun j hj => cell_later hb (h j hj)⟩

theorem OwnO.later {w w' : World} {B n : Nat} {ao : Option Addr} {f : Nat → Int} (h : OwnO w B ao n f) (hb : Below w.heap.size w w') : OwnO w' B ao n f := by
  rcases h with h | ⟨g, rfl, hg, h⟩
  · exact .inl h
  · exact .inr ⟨g, rfl, hg, h.later hb h.lt⟩

/-- zzCloneInts: the same numbers in new memory; nil stays nil. -/
theorem clone_any (a : Option Addr) (n c : Nat) (f : Nat → Int) (w : World) (hn : n ≤ 1048576) (h : In w a n c f) :
    Calls Uacg.prog 6 #[.slice a n c] w fun e w' => ∃ ao, e = .returned (.slice ao n n) ∧ OwnO w' w.heap.size ao n f ∧ Below w.heap.size w w' := by
  rcases h with ⟨rfl, rfl, rfl⟩ | ⟨⟨b, off, sp⟩, rfl, hc⟩
  · refine (clone_nil w).mono ?_
    rintro e w' ⟨rfl, hb⟩
    exact ⟨none, rfl, .inl ⟨rfl, rfl⟩, hb⟩
  · have h0 : 0 < n → sp = none := fun h0 => by simpa [Addr.add] using World.cell?_spot (hc 0 h0)
    have hc' : ∀ j, j < n → w.cell? ⟨b, off + j, none⟩ = some (.int .i64 (f j)) := fun j hj => by
      obtain rfl := h0 (by omega)
      have e : (⟨b, off, none⟩ : Addr).add j = ⟨b, off + j, none⟩ := by unfold Addr.add; split <;> simp_all
      rw [← e]; exact hc j hj
    refine (clone_row b off sp n c f w hn h0 hc' (fun h0 => World.block_lt_of_cell? w _ (hc' 0 h0))).mono ?_
    rintro e w' ⟨rfl, ho, hb⟩
    exact ⟨_, rfl, .inr ⟨_, rfl, Nat.le_refl _, ho⟩, hb⟩

def fits (n : Nat) : Bool := decide (n ≤ 1048576)

set_option maxHeartbeats 400000 in
theorem bytes5 (a b : Option Addr) (la ca lb cb : Nat) (t : Int) (w : World) :
    Calls Uacg.prog 5 #[.slice a la ca, .slice b lb cb, .int .i64 t] w fun e w' => e = .returned (.bool (fits (la + lb))) ∧ w' = w := by
  by_cases h1 : (1048576 : Int) < la
  · have hf : Hid (fits (la + lb) = false) := by show _ = _; unfold fits; simp; omega
    go_enter Uacg.func5, Uacg.ntmps5
    go_wp2
    go_ret
    exact ⟨by rw [hf.out]; rfl, rfl⟩
  · by_cases h2 : (1048576 : Int) < lb
    · have hf : Hid (fits (la + lb) = false) := by show _ = _; unfold fits; simp; omega
      go_enter Uacg.func5, Uacg.ntmps5
      go_wp2
      go_ret
      exact ⟨by rw [hf.out]; rfl, rfl⟩
    · by_cases h3 : (1048576 : Int) < (la : Int) + lb
      · have hf : Hid (fits (la + lb) = false) := by show _ = _; unfold fits; simp; omega
        go_enter Uacg.func5, Uacg.ntmps5
        go_wp2
        go_ret
        exact ⟨by rw [hf.out]; rfl, rfl⟩
      · have hf : Hid (fits (la + lb) = true) := by show _ = _; unfold fits; simp; omega
        go_enter Uacg.func5, Uacg.ntmps5
        go_wp2
        go_ret
        exact ⟨by rw [hf.out]; rfl, rfl⟩

set_option maxHeartbeats 400000 in
theorem bytes8 (a : Option Addr) (la ca : Nat) (t : Int) (w : World) :
    Calls Uacg.prog 8 #[.slice a la ca, .int .i64 t] w fun e w' => e = .returned (.bool (fits la)) ∧ w' = w := by
  by_cases h1 : (1048576 : Int) < la
  · have hf : Hid (fits la = false) := by show _ = _; unfold fits; simp; omega
    go_enter Uacg.func8, Uacg.ntmps8
    go_wp2
    go_ret
    exact ⟨by rw [hf.out]; rfl, rfl⟩
  · have hf : Hid (fits la = true) := by show _ = _; unfold fits; simp; omega
    go_enter Uacg.func8, Uacg.ntmps8
    go_wp2
    go_ret
    exact ⟨by rw [hf.out]; rfl, rfl⟩

end Go.Proofs.Youacw.Toks
