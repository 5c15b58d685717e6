/-
  FnTokensOneOfExactlyMembership (4), walked.
-/
import Derived.Test.YouacwHeads
namespace Go.Proofs.Youacw.Toks
open Go.RowKit

/-- A slice of the call's own, nil or the head of a row in a block below B. -/
def Up (w : World) (B : Nat) (ao : Option Addr) (n : Nat) (f : Nat → Int) : Prop :=
  (ao = none ∧ n = 0) ∨ ∃ g, ao = some ⟨g, 0, none⟩ ∧ g < B ∧ Own w g n f

theorem OwnO.up {w : World} {B n : Nat} {ao : Option Addr} {f : Nat → Int} (h : OwnO w B ao n f) : Up w w.heap.size ao n f := by
  rcases h with h | ⟨g, rfl, _, h⟩
  · exact .inl h
  · exact .inr ⟨g, rfl, h.lt, h⟩

theorem Up.own {w : World} {B n : Nat} {ao : Option Addr} {f : Nat → Int} (h : Up w B ao n f) : OwnO w 0 ao n f := by
  rcases h with h | ⟨g, rfl, _, h⟩
  · exact .inl h
  · exact .inr ⟨g, rfl, Nat.zero_le _, h⟩

theorem Up.later {w w' : World} {B C n : Nat} {ao : Option Addr} {f : Nat → Int} (h : Up w B ao n f) (hb : Below B w w') (hC : B ≤ C) : Up w' C ao n f := by
  rcases h with h | ⟨g, rfl, hg, h⟩
  · exact .inl h
  · exact .inr ⟨g, rfl, Nat.lt_of_lt_of_le hg hC, h.later hb hg⟩

/-- The empty literal's block. -/
theorem own_bare (w : World) (e : TypeId) (f : Nat → Int) : Own (w.alloc (.cells #[] e)) w.heap.size 0 f := by
  have hg : (w.alloc (.cells #[] e)).heap[w.heap.size]? = some (.cells #[] e (0, 0)) := heap_alloc_new w _
  exact ⟨lt_of_block hg, fun j hj => absurd hj (Nat.not_lt_zero j), fun j => frozen_of_row _ w.heap.size j #[] e hg⟩

/-- ZZTokensOneOf, its answer known. -/
theorem zz_known (g n c : Nat) (f : Nat → Int) (t : Int) (v : Bool) (w : World) (hn : n ≤ 1048576) (ho : Own w g n f) (hv : has f n t = v) :
    Calls Uacg.prog 7 #[.slice (some ⟨g, 0, none⟩) n c, .int .i64 t] w fun e w' => e = .returned (.bool v) ∧ Below w.heap.size w w' := by
  subst hv
  exact zz_row g n c f t w hn ho

set_option maxHeartbeats 400000 in
/-- The length is beyond one of the law's own bounds: true at once. -/
theorem member_far (a : Option Addr) (n c : Nat) (t : Int) (w : World) (hfar : 65536 < n) :
    Calls Uacg.prog 4 #[.slice a n c, .int .i64 t] w fun e w' => e = .returned (.bool true) ∧ Below w.heap.size w w' := by
  have h1 : (65536 : Int) < n := by omega
  by_cases hF : fits n = false
  · go_enter Uacg.func4, Uacg.ntmps4
    go_wp2_with (go_at_call 8; refine (bytes8 _ _ _ _ _).mono ?_; rintro e w' ⟨rfl, rfl⟩)
    go_ret
    exact ⟨rfl, Below.refl _ _⟩
  · have hT : fits n = true := by simpa using hF
    clear hF
    go_enter Uacg.func4, Uacg.ntmps4
    go_wp2_with (go_at_call 8; refine (bytes8 _ _ _ _ _).mono ?_; rintro e w' ⟨rfl, rfl⟩)
    go_ret
    exact ⟨rfl, Below.refl _ _⟩

set_option maxHeartbeats 1000000 in
/-- Within the bounds. -/
theorem member_near (a : Option Addr) (n c : Nat) (f : Nat → Int) (t : Int) (w : World) (ha : In w a n c f) (h1 : n ≤ 65536) :
    Calls Uacg.prog 4 #[.slice a n c, .int .i64 t] w fun e w' => e = .returned (.bool true) ∧ Below w.heap.size w w' := by
  have hT : fits n = true := by unfold fits; simp; omega
  obtain ⟨i0, hi, hz0, hz1, hz2⟩ := info_parts info3
  go_enter Uacg.func4, Uacg.ntmps4
  go_wp2_with (go_at_call 8; refine (bytes8 _ _ _ _ _).mono ?_; rintro e w0 ⟨rfl, rfl⟩)
  refine (clone_any a n c f _ (by omega) ha).mono ?_
  rintro e w1 ⟨ao, rfl, hao, hb1⟩
  clear ha
  go_wp2_with fail
  refine (zz_nil t w1).mono ?_
  rintro e w2 ⟨rfl, hb2⟩
  have hao2 := hao.later hb2
  have hB2 : Below w0.heap.size w0 w2 := hb1.trans (hb2.mono hb1.size)
  clear hao hb1 hb2
  go_wp2_with fail
  refine (zz_row w2.heap.size 0 0 (fun _ => 0) t _ (by omega) (own_bare w2 3 _)).mono ?_
  rintro e w3 ⟨rfl, hb3⟩
  have hal : Below w2.heap.size w2 (w2.alloc (.cells #[] 3)) := (Below.refl _ _).alloc (Nat.le_refl _) _
  have hb3' : Below w2.heap.size w2 w3 := hal.trans (hb3.mono hal.size)
  have hao3 := (hao2.later hb3').up
  have hB3 : Below w0.heap.size w0 w3 := hB2.trans (hb3'.mono hB2.size)
  clear hao2 hB2 hb3 hb3' hal
  have hh0 : has (fun _ => 0) 0 t = false := rfl
  go_wp2_with (at_make; refine wpList_make_full _ rfl _ _ 22 rfl w3.heap.size 3 i0 (.int .i64 0) 1 Uacg.underlying22 hi hz0 hz1 .i64 .i64 _ _ (n + 1) rfl rfl ?b0 ?b1 ?b2 ?b3 ?b4 ?_)
  case b0 => omega
  case b1 => omega
  case b2 => rw [hz2]; omega
  case b3 => unfold maxLen; omega
  case b4 => exact Nat.le_refl _
  intro w4 hown hgrow
  have ho4 := own_made hown
  have hb4 : Below w3.heap.size w3 w4 := (Below.refl _ _).grown hgrow (Nat.le_refl _) (fun k hk => by cases hk)
  have hao4 := hao3.later hb4 (Nat.le_refl _)
  have hB4 : Below w0.heap.size w0 w4 := hB3.trans (hb4.mono hB3.size)
  have hG1 : w0.heap.size ≤ w3.heap.size := hB3.size
  clear hown hgrow hao3 hB3 hb4 hh0
  go_wp2_with fail
  go_loopw [6] (fun i wr => ∃ k : Nat, k ≤ n ∧ i = .int .i64 k ∧ Own wr w3.heap.size (n + 1) (pre f k) ∧ Below w3.heap.size w4 wr) (fun i _ => n - (intOf i).toNat)
  case atStart => exact ⟨0, Nat.zero_le _, rfl, ho4.same (Nat.le_refl _) (fun j _ => by simp [pre]), Below.refl _ _⟩
  case round =>
    clear ho4
    obtain ⟨k, hk, rfl, hor, hbr⟩ := hrel
    by_cases hlt : k < n
    · rcases hao4 with ⟨_, h0⟩ | ⟨g, rfl, hg, hoa⟩
      · omega
      have hc := (hoa.later hbr hg).cellAt k hlt
      have hd := hor.cellAt k (by omega)
      have hf := hor.free k
      have hw := hor.put (f' := pre f (k + 1)) k (by omega) (f k) (pre_succ f k _)
      have hbw : Below w3.heap.size w4 (wr.setCell ⟨w3.heap.size, k, none⟩ (.int .i64 (f k))) := hbr.setCell (p := ⟨w3.heap.size, k, none⟩) (Nat.le_refl _) _
      go_wp2_with fail
      go_roundw
      case rel => exact ⟨k + 1, by omega, by go_num, hw, hbw⟩
      case measure => simp [intOf]; omega
    · obtain rfl : k = n := by omega
      have hd := hor.cellAt k (by omega)
      have hf := hor.free k
      have hX1 := hor.put (f' := fun j => if j = k then t else f j) k (by omega) t (fun j hj => by by_cases h : j = k <;> simp [pre, h]; omega)
      have hX2 : Below w3.heap.size w4 (wr.setCell ⟨w3.heap.size, k, none⟩ (.int .i64 t)) := hbr.setCell (p := ⟨w3.heap.size, k, none⟩) (Nat.le_refl _) _
      have hG2 : w3.heap.size < wr.heap.size := hor.lt
      clear hor hbr
      go_wp2_with (at_make; refine wpList_make_own _ rfl _ _ 22 rfl wr.heap.size 3 i0 (.int .i64 0) 1 Uacg.underlying22 hi hz0 hz1 .i64 .i64 _ k rfl rfl rfl ?e2 ?e3 ?e4 ?_)
      case e2 => rw [hz2]; omega
      case e3 => unfold maxLen; omega
      case e4 => simp
      intro w5 hown hgrow
      have hs : (wr.setCell ⟨w3.heap.size, k, none⟩ (.int .i64 t)).heap.size = wr.heap.size := by simp
      have hb5 : Below wr.heap.size (wr.setCell ⟨w3.heap.size, k, none⟩ (.int .i64 t)) w5 := (Below.refl _ _).grown hgrow (by omega) (fun k hk => by cases hk)
      have hb45 : Below w3.heap.size w4 w5 := hX2.trans (hb5.mono (by omega))
      have hw5 := hX1.later hb5 hG2
      have hao5 := hao4.later hb45 (Nat.le_of_lt hG2)
      have hB5 : Below w0.heap.size w0 w5 := hB4.trans (hb45.mono hG1)
      have hL5 : wr.heap.size < w5.heap.size := by have := (hown.lt _ rfl).2; simpa using this
      obtain ⟨G, hG⟩ : ∃ G, G = wr.heap.size := ⟨_, rfl⟩
      rw [← hG] at hown hao5 hL5 hG2 ⊢
      clear hX1 hX2 hb5 hb45 hgrow hs hao4 hB4 hG
      go_wp2_with fail
      go_loopw [7, 8] (fun v i wq => ∃ m : Nat, m ≤ k ∧ i = .int .i64 m ∧ v = .slice (some ⟨G, 0, none⟩) (rest f t m).length k ∧ wq.ownsRow G 3 1 (.slice (some ⟨G, 0, none⟩) (rest f t m).length k) (rest f t m).length ((rest f t m).map (Value.int .i64)) ∧ Below G w5 wq) (fun _ i _ => k - (intOf i).toNat)
      case atStart => exact ⟨0, Nat.zero_le _, rfl, rfl, hown, Below.refl _ _⟩
      case round =>
        clear hown
        obtain ⟨m, hm, rfl, rfl, hor, hbr⟩ := hrel
        by_cases hlm : m < k
        · rcases hao5 with ⟨_, h0⟩ | ⟨g, rfl, hg, hoa⟩
          · omega
          have hc := (hoa.later hbr hg).cellAt m hlm
          have hrl := rest_le f t m
          by_cases hx : f m = t
          · have hq : (f m == t) = true := by simp [hx]
            have HR : Hid (rest f t (m + 1) = rest f t m) := rest_hit hx
            clear hx
            go_wp2_with fail
            go_roundw
            case rel => exact ⟨m + 1, by omega, by go_num, by rw [HR.out], by rw [HR.out]; exact hor, hbr⟩
            case measure => simp [intOf]; omega
          · have hq : (f m == t) = false := by simp [hx]
            have HR : Hid (rest f t (m + 1) = rest f t m ++ [f m]) := rest_miss hx
            clear hx
            go_wp2_with (at_builtin; refine wpList_append_fits _ rfl _ _ 22 rfl G 3 i0 1 Uacg.underlying22 hi hz1 G (rest f t m).length k _ rfl (hor.alloc _) ⟨wr.heap.size, 0, none⟩ 1 1 [.int .i64 (f m)] rfl rfl ?d1 ?d2 ?d3 ?_)
            case d1 => exact cell_one_new _ _ _
            case d2 => intro u hu; simp at hu; subst hu; rfl
            case d3 => omega
            intro w6 hown hgrow
            have hGr : G ≤ wr.heap.size := by have := hbr.size; omega
            have hb6 : Below G w5 w6 := (hbr.alloc hGr _).grown hgrow (by simp; omega) (fun j hj => by cases hj; exact Nat.le_refl _)
            clear hor hbr hgrow hoa hc hw5
            go_wp2_with fail
            go_roundw
            case rel => exact ⟨m + 1, by omega, by go_num, by rw [HR.out]; simp, by rw [HR.out]; simpa using hown, hb6⟩
            case measure => simp [intOf]; omega
        · obtain rfl : m = k := by omega
          have hG3 : G < wr.heap.size := (hor.lt _ rfl).2
          have hl := own_listed hor
          have hrl := rest_le f t m
          go_wp2_with (at_make; refine wpList_make_full _ rfl _ _ 22 rfl wr.heap.size 3 i0 (.int .i64 0) 1 Uacg.underlying22 hi hz0 hz1 .i64 .i64 m m m rfl rfl rfl rfl ?f2 ?f3 ?f4 ?_)
          case f2 => rw [hz2]; omega
          case f3 => unfold maxLen; omega
          case f4 => exact Nat.le_refl _
          intro w6 hown hgrow
          have ho6 := own_made hown
          have hb6 : Below wr.heap.size wr w6 := (Below.refl _ _).grown hgrow (Nat.le_refl _) (fun k hk => by cases hk)
          have hb56 : Below G w5 w6 := hbr.trans (hb6.mono (Nat.le_of_lt hG3))
          have hw6 := hw5.later hb56 hG2
          have hl6 := hl.later hb6 hG3
          have hao6 := hao5.later hb56 (Nat.le_of_lt hG3)
          have hB6 : Below w0.heap.size w0 w6 := hB5.trans (hb56.mono (by omega))
          have hW3 : w3.heap.size < wr.heap.size := by omega
          have hL6 := ho6.lt
          obtain ⟨L, hL⟩ : ∃ L, L = wr.heap.size := ⟨_, rfl⟩
          rw [← hL] at ho6 hao6 hW3 hG3 hL6 ⊢
          clear hown hgrow hb6 hb56 hw5 hl hao5 hB5 hor hbr hi hz0 hz1 hz2 i0 hL hL5 hd hf
          go_wp2_with fail
          go_loopw [10] (fun i wq => ∃ q : Nat, q ≤ m ∧ i = .int .i64 q ∧ Own wq L m (suf f m q) ∧ Below L w6 wq) (fun i _ => m - (intOf i).toNat)
          case atStart => exact ⟨0, Nat.zero_le _, rfl, ho6.same (Nat.le_refl _) (fun j hj => by unfold suf; rw [if_neg (by omega)]), Below.refl _ _⟩
          case round =>
            clear ho6
            obtain ⟨q, hq, rfl, hor, hbr⟩ := hrel
            by_cases hlq : q < m
            · rcases hao6 with ⟨_, h0⟩ | ⟨g, rfl, hg, hoa⟩
              · omega
              have hc := (hoa.later hbr hg).cellAt q hlq
              have hd := hor.cellAt (m - 1 - q) (by omega)
              have hf := hor.free (m - 1 - q)
              have hw := hor.put (f' := suf f m (q + 1)) (m - 1 - q) (by omega) (f q) (suf_succ f m q hlq)
              have hbw : Below L w6 (wr.setCell ⟨L, m - 1 - q, none⟩ (.int .i64 (f q))) := hbr.setCell (p := ⟨L, m - 1 - q, none⟩) (Nat.le_refl _) _
              clear hw6 hl6 hoa
              go_wp2_with fail
              go_roundw
              case rel => exact ⟨q + 1, by omega, by go_num, hw, hbw⟩
              case measure => simp [intOf]; omega
            · obtain rfl : q = m := by omega
              have hw7 := hw6.later hbr hW3
              have hl7 := hl6.later hbr hG3
              have hao7 := (hao6.later hbr (Nat.le_refl _)).own
              have HB : Hid (Below w0.heap.size w0 wr) := hB6.trans (hbr.mono (by omega))
              have hr7 : Own wr L q (fun j => f (q - 1 - j)) := hor.same (Nat.le_refl _) (fun j hj => by unfold suf; rw [if_pos (by omega)])
              clear hw6 hl6 hao6 hB6 hbr hor
              go_wp2_with fail
              refine (zz_known w3.heap.size (q + 1) (q + 1) _ t true wr (by omega) hw7 (has_last f q t)).mono ?_
              rintro e w7 ⟨rfl, hb7⟩
              have hl8 := hl7.later hb7 hl7.lt
              have hao8 := hao7.later hb7
              have hr8 := hr7.later hb7 hr7.lt
              have HB7 : Hid (Below w0.heap.size w0 w7) := HB.out.trans (hb7.mono HB.out.size)
              have hrl := rest_le f t q
              clear hw7 hl7 hao7 hr7 HB hb7
              go_wp2_with fail
              refine (zz_known G (rest f t q).length q _ t false w7 (by omega) hl8 (has_rest f t q)).mono ?_
              rintro e w8 ⟨rfl, hb8⟩
              have hao9 := hao8.later hb8
              have hr9 := hr8.later hb8 hr8.lt
              have HB8 : Hid (Below w0.heap.size w0 w8) := HB7.out.trans (hb8.mono HB7.out.size)
              clear hl8 hao8 hr8 HB7 hb8
              go_wp2_with fail
              refine (zz_known L q q _ t (has f q t) w8 (by omega) hr9 (has_rev f q t)).mono ?_
              rintro e w9 ⟨rfl, hb9⟩
              have hao10 := hao9.later hb9
              have HB9 : Hid (Below w0.heap.size w0 w9) := HB8.out.trans (hb9.mono HB8.out.size)
              clear hao9 hr9 HB8 hb9
              go_wp2_with fail
              refine (zz_any 0 ao q f t w9 (by omega) hao10).mono ?_
              rintro e w10 ⟨rfl, hb10⟩
              have HB10 : Hid (Below w0.heap.size w0 w10) := HB9.out.trans (hb10.mono HB9.out.size)
              clear hao10 HB9 hb10
              go_wp2_with fail
              go_ret
              exact ⟨by simp, HB10.out⟩

end Go.Proofs.Youacw.Toks
