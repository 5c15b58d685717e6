/-
  THE WALKS of the functions that both laws share: tokensOneOf (9), ZZTokensOneOf (7), zzCloneInts (6).
-/
import Derived.Test.YouacwRows
import Derived.Test.YouacwOwn
import Derived.WalkLawsBesides
namespace Go.Proofs.Youacw.Toks
open Go.RowKit

set_option maxHeartbeats 400000 in
/-- tokensOneOf over a row of the caller's. -/
theorem oneOf_row (g n : Nat) (f : Nat → Int) (t : Int) (w : World) (hn : n ≤ 1048576) (ho : Own w g n f) :
    Calls Uacg.prog 9 #[.slice (some ⟨g, 0, none⟩) n n, .int .i64 t] w fun e w' => e = .returned (.bool (has f n t)) ∧ w' = w := by
  go_enter Uacg.func9, Uacg.ntmps9
  go_wp2
  go_loop [9] (fun i => ∃ k : Nat, k ≤ n ∧ i = .int .i64 k ∧ Hid (has f k t = false)) (fun i => n - (intOf i).toNat)
  case atStart => exact ⟨0, Nat.zero_le _, rfl, rfl⟩
  case round =>
    obtain ⟨k, hk, rfl, HH⟩ := hrel
    by_cases hlt : k < n
    · have hc := ho.cellAt k hlt
      by_cases hx : f k = t
      · have HT : Hid (has f n t = true) := has_hit hlt hx
        have hq : (f k == t) = true := by simp [hx]
        clear hx
        go_wp2
        go_ret
        exact ⟨by rw [HT.out]; rfl, rfl⟩
      · have HN : Hid (has f (k + 1) t = false) := has_miss HH.out hx
        have hq : (f k == t) = false := by simp [hx]
        clear hx
        go_wp2
        go_round
        case rel => exact ⟨k + 1, by omega, by go_num, HN⟩
        case measure => simp [intOf]; omega
    · obtain rfl : k = n := by omega
      go_wp2
      go_ret
      exact ⟨by rw [HH.out]; rfl, rfl⟩

set_option maxHeartbeats 400000 in
/-- tokensOneOf over the nil slice. -/
theorem oneOf_nil (t : Int) (w : World) :
    Calls Uacg.prog 9 #[.slice none 0 0, .int .i64 t] w fun e w' => e = .returned (.bool false) ∧ w' = w := by
  go_enter Uacg.func9, Uacg.ntmps9
  go_wp2
  refine wp_loop_rounds 1 ?_
  rw [rounds_succ]
  go_wp2
  go_ret
  exact ⟨rfl, rfl⟩

theorem info27 : (Uacg.prog.info? 27).map (fun i => (i.zero, i.size, i.bytes)) = some (some (.int .i64 0), 1, 8) := by kernel_rfl
theorem info3 : (Uacg.prog.info? 3).map (fun i => (i.zero, i.size, i.bytes)) = some (some (.int .i64 0), 1, 8) := by kernel_rfl

set_option maxHeartbeats 400000 in
/-- ZZTokensOneOf over the nil slice. -/
theorem zz_nil (t : Int) (w : World) :
    Calls Uacg.prog 7 #[.slice none 0 0, .int .i64 t] w fun e w' => e = .returned (.bool false) ∧ Below w.heap.size w w' := by
  have hne := fun wx : World => run_neq_slice_nil_any (P := Uacg.prog) wx 22 3 none 0 0 0 0 Uacg.underlying22
  go_enter Uacg.func7, Uacg.ntmps7
  go_wp2_with (go_at_call 9; refine (oneOf_nil _ _).mono ?_; rintro e w' ⟨rfl, rfl⟩)
  go_ret
  exact ⟨rfl, Below.refl _ _⟩

set_option maxHeartbeats 400000 in
/-- ZZTokensOneOf over a row of the caller's. -/
theorem zz_row (g n c : Nat) (f : Nat → Int) (t : Int) (w : World) (hn : n ≤ 1048576) (ho : Own w g n f) :
    Calls Uacg.prog 7 #[.slice (some ⟨g, 0, none⟩) n c, .int .i64 t] w fun e w' => e = .returned (.bool (has f n t)) ∧ Below w.heap.size w w' := by
  obtain ⟨i0, hi, hz0, hz1, hz2⟩ := info_parts info27
  have hne := fun wx : World => run_neq_slice_nil_any (P := Uacg.prog) wx 22 3 (some ⟨g, 0, none⟩) n c 0 0 Uacg.underlying22
  go_enter Uacg.func7, Uacg.ntmps7
  go_wp2_with (at_make; refine wpList_make_full _ rfl _ _ 26 rfl w.heap.size 27 i0 (.int .i64 0) 1 Uacg.underlying26 hi hz0 hz1 .i64 .i64 n n n rfl rfl rfl rfl ?b2 ?b3 ?b4 ?_)
  case b2 => rw [hz2]; omega
  case b3 => unfold maxLen; omega
  case b4 => exact Nat.le_refl _
  intro w1 hown hgrow
  have ho1 := own_made hown
  have hb1 : Below w.heap.size w w1 := (Below.refl _ _).grown hgrow (Nat.le_refl _) (fun k hk => by cases hk)
  clear hown hgrow hi hz0 hz1 hz2 i0
  go_wp2_with fail
  go_loopw [6] (fun i wr => ∃ k : Nat, k ≤ n ∧ i = .int .i64 k ∧ Own wr w.heap.size n (pre f k) ∧ Below w.heap.size w wr) (fun i _ => n - (intOf i).toNat)
  case atStart => exact ⟨0, Nat.zero_le _, rfl, ho1.same (Nat.le_refl _) (fun j _ => by simp [pre]), hb1⟩
  case round =>
    clear ho1 hb1 hne
    obtain ⟨k, hk, rfl, hor, hbr⟩ := hrel
    by_cases hlt : k < n
    · have hc := (ho.later hbr ho.lt).cellAt k hlt
      have hd := hor.cellAt k hlt
      have hf := hor.free k
      have hw := hor.put (f' := pre f (k + 1)) k hlt (f k) (pre_succ f k n)
      have hbw : Below w.heap.size w (wr.setCell ⟨w.heap.size, k, none⟩ (.int .i64 (f k))) := hbr.setCell (p := ⟨w.heap.size, k, none⟩) (Nat.le_refl _) _
      go_wp2_with fail
      go_roundw
      case rel => exact ⟨k + 1, by omega, by go_num, hw, hbw⟩
      case measure => simp [intOf]; omega
    · obtain rfl : k = n := by omega
      go_wp2_with (go_at_call 9; refine (oneOf_row w.heap.size k f t _ hn (hor.same (Nat.le_refl _) (fun j hj => by simp [pre, hj]))).mono ?_; rintro e w' ⟨rfl, rfl⟩)
      go_ret
      exact ⟨rfl, hbr⟩

/-- A slice of the call's own: nil, or the head of one of its rows, in a block from B on. -/
def OwnO (w : World) (B : Nat) (ao : Option Addr) (n : Nat) (f : Nat → Int) : Prop :=
  (ao = none ∧ n = 0) ∨ ∃ g, ao = some ⟨g, 0, none⟩ ∧ B ≤ g ∧ Own w g n f

/-- ZZTokensOneOf: does t stand in the slice? New memory alone is written. -/
theorem zz_any (B : Nat) (ao : Option Addr) (n : Nat) (f : Nat → Int) (t : Int) (w : World) (hn : n ≤ 1048576) (ho : OwnO w B ao n f) :
    Calls Uacg.prog 7 #[.slice ao n n, .int .i64 t] w fun e w' => e = .returned (.bool (has f n t)) ∧ Below w.heap.size w w' := by
  rcases ho with ⟨rfl, rfl⟩ | ⟨g, rfl, _, ho⟩
  · exact zz_nil t w
  · exact zz_row g n n f t w hn ho

set_option maxHeartbeats 400000 in
/-- zzCloneInts of the nil slice. -/
theorem clone_nil (w : World) :
    Calls Uacg.prog 6 #[.slice none 0 0] w fun e w' => e = .returned (.slice none 0 0) ∧ Below w.heap.size w w' := by
  have hne := fun wx : World => Lib.run_eql_slice_nil (P := Uacg.prog) wx 22 3 none 0 0 0 0 Uacg.underlying22
  go_enter Uacg.func6, Uacg.ntmps6
  go_wp2
  go_ret
  exact ⟨rfl, Below.refl _ _⟩

set_option maxHeartbeats 400000 in
/-- zzCloneInts of a slice that is not nil: its elements in a new block. (Of an empty slice's address nothing is known: 'hx'.) -/
theorem clone_row (b off : Nat) (sp : Option Nat) (n c : Nat) (f : Nat → Int) (w : World) (hn : n ≤ 1048576) (hx : 0 < n → sp = none)
    (hcell : ∀ j, j < n → w.cell? ⟨b, off + j, none⟩ = some (.int .i64 (f j))) (hbw : 0 < n → b < w.heap.size) :
    Calls Uacg.prog 6 #[.slice (some ⟨b, off, sp⟩) n c] w fun e w' => e = .returned (.slice (some ⟨w.heap.size, 0, none⟩) n n) ∧ Own w' w.heap.size n f ∧ Below w.heap.size w w' := by
  obtain ⟨i0, hi, hz0, hz1, hz2⟩ := info_parts info3
  have hne := fun wx : World => Lib.run_eql_slice_nil (P := Uacg.prog) wx 22 3 (some ⟨b, off, sp⟩) n c 0 0 Uacg.underlying22
  go_enter Uacg.func6, Uacg.ntmps6
  go_wp2_with (at_make; refine wpList_make_full _ rfl _ _ 22 rfl w.heap.size 3 i0 (.int .i64 0) 1 Uacg.underlying22 hi hz0 hz1 .i64 .i64 n n n rfl rfl rfl rfl ?b2 ?b3 ?b4 ?_)
  case b2 => rw [hz2]; omega
  case b3 => unfold maxLen; omega
  case b4 => exact Nat.le_refl _
  intro w1 hown hgrow
  have ho1 := own_made hown
  have hb1 : Below w.heap.size w w1 := (Below.refl _ _).grown hgrow (Nat.le_refl _) (fun k hk => by cases hk)
  clear hown hgrow hi hz0 hz1 hz2 i0
  go_wp2_with fail
  go_loopw [4] (fun i wr => ∃ k : Nat, k ≤ n ∧ i = .int .i64 k ∧ Own wr w.heap.size n (pre f k) ∧ Below w.heap.size w wr) (fun i _ => n - (intOf i).toNat)
  case atStart => exact ⟨0, Nat.zero_le _, rfl, ho1.same (Nat.le_refl _) (fun j _ => by simp [pre]), hb1⟩
  case round =>
    clear ho1 hb1 hne
    obtain ⟨k, hk, rfl, hor, hbr⟩ := hrel
    by_cases hlt : k < n
    · obtain rfl := hx (by omega)
      have hc : wr.cell? ⟨b, off + k, none⟩ = some (.int .i64 (f k)) := by rw [hbr.cell (p := ⟨b, off + k, none⟩) (hbw (by omega))]; exact hcell k hlt
      have hd := hor.cellAt k hlt
      have hf := hor.free k
      have hw := hor.put (f' := pre f (k + 1)) k hlt (f k) (pre_succ f k n)
      have hbw' : Below w.heap.size w (wr.setCell ⟨w.heap.size, k, none⟩ (.int .i64 (f k))) := hbr.setCell (p := ⟨w.heap.size, k, none⟩) (Nat.le_refl _) _
      clear hcell hx hbw
      go_wp2_with fail
      go_roundw
      case rel => exact ⟨k + 1, by omega, by go_num, hw, hbw'⟩
      case measure => simp [intOf]; omega
    · obtain rfl : k = n := by omega
      go_wp2_with fail
      go_ret
      exact ⟨rfl, hor.same (Nat.le_refl _) (fun j hj => by simp [pre, hj]), hbr⟩

end Go.Proofs.Youacw.Toks
