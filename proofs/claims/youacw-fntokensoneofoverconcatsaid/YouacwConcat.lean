/-
  FnTokensOneOfOverConcat (3), walked.
-/
import Derived.Test.YouacwHeads
namespace Go.Proofs.Youacw.Toks
open Go.RowKit

set_option maxHeartbeats 400000 in
/-- The lengths are beyond one of the law's own bounds: true at once. -/
theorem concat_far (a b : Option Addr) (la ca lb cb : Nat) (t : Int) (w : World) (hfar : 65536 < la ∨ 65536 < lb) :
    Calls Uacg.prog 3 #[.slice a la ca, .slice b lb cb, .int .i64 t] w fun e w' => e = .returned (.bool true) ∧ Below w.heap.size w w' := by
  by_cases hF : fits (la + lb) = false
  · go_enter Uacg.func3, Uacg.ntmps3
    go_wp2_with (go_at_call 5; refine (bytes5 _ _ _ _ _ _ _ _).mono ?_; rintro e w' ⟨rfl, rfl⟩)
    go_ret
    exact ⟨rfl, Below.refl _ _⟩
  · have hT : fits (la + lb) = true := by simpa using hF
    clear hF
    by_cases h1 : (65536 : Int) < la
    · go_enter Uacg.func3, Uacg.ntmps3
      go_wp2_with (go_at_call 5; refine (bytes5 _ _ _ _ _ _ _ _).mono ?_; rintro e w' ⟨rfl, rfl⟩)
      go_ret
      exact ⟨rfl, Below.refl _ _⟩
    · have h2 : (65536 : Int) < lb := by omega
      go_enter Uacg.func3, Uacg.ntmps3
      go_wp2_with (go_at_call 5; refine (bytes5 _ _ _ _ _ _ _ _).mono ?_; rintro e w' ⟨rfl, rfl⟩)
      go_ret
      exact ⟨rfl, Below.refl _ _⟩

set_option maxHeartbeats 1000000 in
/-- Within the bounds. -/
theorem concat_near (a b : Option Addr) (la ca lb cb : Nat) (fa fb : Nat → Int) (t : Int) (w : World) (ha : In w a la ca fa) (hb : In w b lb cb fb) (h1 : la ≤ 65536) (h2 : lb ≤ 65536) :
    Calls Uacg.prog 3 #[.slice a la ca, .slice b lb cb, .int .i64 t] w fun e w' => e = .returned (.bool true) ∧ Below w.heap.size w w' := by
  have hT : fits (la + lb) = true := by unfold fits; simp; omega
  obtain ⟨i0, hi, hz0, hz1, hz2⟩ := info_parts info3
  go_enter Uacg.func3, Uacg.ntmps3
  go_wp2_with (go_at_call 5; refine (bytes5 _ _ _ _ _ _ _ _).mono ?_; rintro e w0 ⟨rfl, rfl⟩)
  refine (clone_any a la ca fa _ (by omega) ha).mono ?_
  rintro e w1 ⟨ao, rfl, hao, hb1⟩
  have hb' := hb.later hb1
  clear ha hb
  go_wp2_with fail
  refine (clone_any b lb cb fb _ (by omega) hb').mono ?_
  rintro e w2 ⟨bo, rfl, hbo, hb2⟩
  have hao2 := hao.later hb2
  have hB2 : Below w0.heap.size w0 w2 := hb1.trans (hb2.mono hb1.size)
  clear hao hb' hb1 hb2
  go_wp2_with (at_make; refine wpList_make_full _ rfl _ _ 22 rfl w2.heap.size 3 i0 (.int .i64 0) 1 Uacg.underlying22 hi hz0 hz1 .i64 .i64 _ _ (la + lb) rfl rfl ?b0 ?b1 ?b2 ?b3 ?b4 ?_)
  case b0 => omega
  case b1 => omega
  case b2 => rw [hz2]; omega
  case b3 => unfold maxLen; omega
  case b4 => exact Nat.le_refl _
  intro w3 hown hgrow
  have ho3 := own_made hown
  have hb3 : Below w2.heap.size w2 w3 := (Below.refl _ _).grown hgrow (Nat.le_refl _) (fun k hk => by cases hk)
  clear hown hgrow hi hz0 hz1 hz2 i0
  go_wp2_with fail
  go_loopw [8] (fun i wr => ∃ k : Nat, k ≤ la ∧ i = .int .i64 k ∧ Own wr w2.heap.size (la + lb) (pre (cat fa fb la) k) ∧ Below w2.heap.size w2 wr) (fun i _ => la - (intOf i).toNat)
  case atStart => exact ⟨0, Nat.zero_le _, rfl, ho3.same (Nat.le_refl _) (fun j _ => by simp [pre]), hb3⟩
  case round =>
    clear ho3 hb3
    obtain ⟨k, hk, rfl, hor, hbr⟩ := hrel
    by_cases hlt : k < la
    · rcases hao2 with ⟨_, h0⟩ | ⟨g, rfl, _, hoa⟩
      · omega
      have hc := (hoa.later hbr hoa.lt).cellAt k hlt
      have hd := hor.cellAt k (by omega)
      have hf := hor.free k
      have hw := hor.put (f' := pre (cat fa fb la) (k + 1)) k (by omega) (fa k) (fun j hj => by rw [pre_succ (cat fa fb la) k _ j hj]; simp [cat, hlt])
      have hbw : Below w2.heap.size w2 (wr.setCell ⟨w2.heap.size, k, none⟩ (.int .i64 (fa k))) := hbr.setCell (p := ⟨w2.heap.size, k, none⟩) (Nat.le_refl _) _
      clear hbo
      go_wp2_with fail
      go_roundw
      case rel => exact ⟨k + 1, by omega, by go_num, hw, hbw⟩
      case measure => simp [intOf]; omega
    · obtain rfl : k = la := by omega
      go_wp2_with fail
      go_loopw [9] (fun i wq => ∃ m : Nat, m ≤ lb ∧ i = .int .i64 m ∧ Own wq w2.heap.size (k + lb) (pre (cat fa fb k) (k + m)) ∧ Below w2.heap.size w2 wq) (fun i _ => lb - (intOf i).toNat)
      case atStart => exact ⟨0, Nat.zero_le _, rfl, hor, hbr⟩
      case round =>
        clear hor hbr
        obtain ⟨m, hm, rfl, hor, hbr⟩ := hrel
        by_cases hlm : m < lb
        · rcases hbo with ⟨_, h0⟩ | ⟨g, rfl, _, hob⟩
          · omega
          have hc := (hob.later hbr hob.lt).cellAt m hlm
          have hd := hor.cellAt (k + m) (by omega)
          have hf := hor.free (k + m)
          have hw := hor.put (f' := pre (cat fa fb k) (k + (m + 1))) (k + m) (by omega) (fb m) (pre_cat fa fb k m _)
          have hbw : Below w2.heap.size w2 (wr.setCell ⟨w2.heap.size, k + m, none⟩ (.int .i64 (fb m))) := hbr.setCell (p := ⟨w2.heap.size, k + m, none⟩) (Nat.le_refl _) _
          clear hao2
          go_wp2_with fail
          go_roundw
          case rel => exact ⟨m + 1, by omega, by go_num, hw, hbw⟩
          case measure => simp [intOf]; omega
        · obtain rfl : m = lb := by omega
          have hab : OwnO wr w2.heap.size (some ⟨w2.heap.size, 0, none⟩) (k + m) (cat fa fb k) := .inr ⟨_, rfl, Nat.le_refl _, hor.same (Nat.le_refl _) (fun j hj => by simp [pre, hj])⟩
          have hA := hao2.later hbr
          have hBo := hbo.later hbr
          have HB : Hid (Below w0.heap.size w0 wr) := hB2.trans (hbr.mono hB2.size)
          clear hao2 hbo hor hbr hB2
          have HC : Hid (has (cat fa fb k) (k + m) t = (has fa k t || has fb m t)) := has_cat fa fb k m t
          by_cases hq : has fa k t = true
          · go_wp2_with fail
            refine (zz_any w2.heap.size _ (k + m) (cat fa fb k) t wr (by omega) hab).mono ?_
            rintro e w4 ⟨rfl, hb4⟩
            have hA4 := hA.later hb4
            go_wp2_with fail
            refine (zz_any w0.heap.size ao k fa t w4 (by omega) hA4).mono ?_
            rintro e w5 ⟨rfl, hb5⟩
            have HB5 : Hid (Below w0.heap.size w0 w5) := (HB.out.trans (hb4.mono HB.out.size)).trans (hb5.mono (Nat.le_trans HB.out.size hb4.size))
            have HR : Hid (has (cat fa fb k) (k + m) t = true) := by show _ = _; rw [HC.out, hq]; rfl
            go_wp2_with fail
            go_ret
            exact ⟨by rw [HR.out]; rfl, HB5.out⟩
          · have hq' : has fa k t = false := by simpa using hq
            clear hq
            go_wp2_with fail
            refine (zz_any w2.heap.size _ (k + m) (cat fa fb k) t wr (by omega) hab).mono ?_
            rintro e w4 ⟨rfl, hb4⟩
            have hA4 := hA.later hb4
            go_wp2_with fail
            refine (zz_any w0.heap.size ao k fa t w4 (by omega) hA4).mono ?_
            rintro e w5 ⟨rfl, hb5⟩
            have hB5 := (hBo.later hb4).later hb5
            go_wp2_with fail
            refine (zz_any w1.heap.size bo m fb t w5 (by omega) hB5).mono ?_
            rintro e w6 ⟨rfl, hb6⟩
            have HB5 : Hid (Below w0.heap.size w0 w5) := (HB.out.trans (hb4.mono HB.out.size)).trans (hb5.mono (Nat.le_trans HB.out.size hb4.size))
            have HB6 : Hid (Below w0.heap.size w0 w6) := HB5.out.trans (hb6.mono HB5.out.size)
            have HR : Hid (has (cat fa fb k) (k + m) t = has fb m t) := by show _ = _; rw [HC.out, hq']; rfl
            go_wp2_with fail
            go_ret
            exact ⟨by rw [HR.out]; simp, HB6.out⟩

end Go.Proofs.Youacw.Toks
