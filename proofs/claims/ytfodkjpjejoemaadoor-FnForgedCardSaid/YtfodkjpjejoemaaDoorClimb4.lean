/-
  A proof verified: the thin call walked; the specification's Climbed.
  Conditions: the proof reads as numbers and lists of bytes, root and leaf as bytes, the root not empty; SHA-256's table holds its numbers.
-/
import Derived.Test.YtfodkjpjejoemaaDoorClimb3
namespace Go.Proofs.YtfodkjpjejoemaaDoor
open Go Go.RowKit
attribute [local go_sem ↓] Go.wp_at_zero Go.wp_at_succ

set_option maxHeartbeats 1000000 in
theorem mVerify_any (v rv fv : Value) (p : Prf) (root leaf : List UInt8) (w : World) (h : PrfV w v p) (hr : Byts w rv root) (hr0 : 0 < root.length) (hf : Byts w fv leaf) (hK : KTab w) (hll : p.leaf.length ≤ 1073741824) (hal : ∀ a ∈ p.aunts, a.length ≤ 1073741824) (hfl : leaf.length ≤ 4294960000) :
    Calls Tryd.prog 69 #[v, rv, fv] w fun e w' => e = .returned (.bool (verifB p root leaf)) ∧ Keep w w' := by
  obtain ⟨lv, av, rfl, hl, ha, b1, b2, b3, b4⟩ := h
  have hk0 : Keep w (w.alloc (.cells #[.int .i64 p.total, .int .i64 p.index, lv, av] 76)) := (Kp.refl _ _).alloc _
  have HV := Lib.hid (verify_any w.heap.size p lv av rv fv root leaf (w.alloc (.cells #[.int .i64 p.total, .int .i64 p.index, lv, av] 76))
    ⟨by simp, by simp, by simp, by simp⟩ (Mat.keep ha hk0) (Byts.keep hl hk0) (Byts.keep hr hk0) hr0 (Byts.keep hf hk0) (hK.keep hk0 (fun x => x)) b2 hll hal hfl)
  have HK0 := Lib.hid hk0
  clear hl ha hr hf hK hal hk0
  cases hv : verifB p root leaf
  all_goals
    have HB := Lib.hid hv
    clear hv
    go_enter Tryd.func69, Tryd.ntmps69
    go_wp2_with (go_at_call 100; refine HV.out.mono ?_; rintro e w1 ⟨⟨v, rfl, hr⟩, hk1⟩; rw [HB.out] at hr; first | (obtain ⟨t, x, rfl⟩ := hr) | (obtain rfl := hr))
    go_ret
    exact ⟨rfl, HK0.out.trans hk1⟩

set_option maxHeartbeats 1000000 in
theorem implVerified_any (v rv fv : Value) (p : Prf) (root leaf : List UInt8) (w : World) (h : PrfV w v p) (hr : Byts w rv root) (hr0 : 0 < root.length) (hf : Byts w fv leaf) (hK : KTab w) (hll : p.leaf.length ≤ 1073741824) (hal : ∀ a ∈ p.aunts, a.length ≤ 1073741824) (hfl : leaf.length ≤ 4294960000) :
    Calls Tryd.prog 34 #[v, rv, fv] w fun e w' => e = .returned (.bool (verifB p root leaf)) ∧ Keep w w' := by
  obtain ⟨lv, av, rfl, hl, ha, b1, b2, b3, b4⟩ := h
  have hk0 : Keep w (w.alloc (.cells #[.int .i64 p.total, .int .i64 p.index, lv, av] 25)) := (Kp.refl _ _).alloc _
  have hp : PrfV (w.alloc (.cells #[.int .i64 p.total, .int .i64 p.index, lv, av] 25)) (.agg #[.int .i64 p.total, .int .i64 p.index, lv, av]) p := ⟨lv, av, rfl, hl.keep hk0, ha.keep hk0, b1, b2, b3, b4⟩
  have HP := Lib.hid hp
  have HI := Lib.hid (implProof_any _ p _ hp)
  have HR := Lib.hid (Byts.keep hr hk0)
  have HF := Lib.hid (Byts.keep hf hk0)
  have HKT := Lib.hid (hK.keep hk0 (fun x => x))
  have HAL := Lib.hid hal
  have HK0 := Lib.hid hk0
  clear hl ha hp hr hf hK hal hk0
  go_enter Tryd.func34, Tryd.ntmps34
  go_wp2_with (first
    | (go_at_call 48; refine HI.out.mono ?_; rintro e w1 ⟨rfl, hk1⟩)
    | (go_at_call 69; refine (mVerify_any _ rv fv p root leaf _ (HP.out.keep hk1) (Byts.keep HR.out hk1) hr0 (Byts.keep HF.out hk1) (HKT.out.keep hk1 (fun x => x)) hll HAL.out hfl).mono ?_; rintro e w2 ⟨rfl, hk2⟩))
  go_ret
  exact ⟨rfl, (HK0.out.trans hk1).trans hk2⟩


set_option maxRecDepth 100000 in
set_option maxHeartbeats 2000000 in
theorem specClimbed_any (v : Value) (p : Prf) (w : World) (h : PrfV w v p) (hll : p.leaf.length ≤ 1073741824) (hal : ∀ a ∈ p.aunts, a.length ≤ 1073741824) :
    Calls Tryd.prog 36 #[v] w fun e w' => EndsC w' (climbP p) e ∧ Keep w w' := by
  obtain ⟨lv, av, rfl, hl, ha, b1, b2, b3, b4⟩ := h
  have hk0 : Keep w (w.alloc (.cells #[.int .i64 p.total, .int .i64 p.index, lv, av] 28)) := (Kp.refl _ _).alloc _
  have HK0 := Lib.hid hk0
  by_cases hg : 0 ≤ p.index ∧ p.index < p.total
  · obtain ⟨g1, g2⟩ := hg
    have e : climbP p = climbS p.leaf p.aunts p.total.toNat p.index.toNat := if_pos ⟨g1, g2⟩
    rw [e]
    have hc := specClimb_n p.aunts.length p.aunts p.leaf lv av p.total.toNat p.index.toNat (w.alloc (.cells #[.int .i64 p.total, .int .i64 p.index, lv, av] 28)) (Nat.le_refl _) (Mat.keep ha hk0) (Byts.keep hl hk0) (by omega) (by omega) (by omega) hll hal
    rw [Int.toNat_of_nonneg g1, Int.toNat_of_nonneg (by omega)] at hc
    have HC := Lib.hid hc
    have t0 : ¬ p.total ≤ 0 := by omega
    have t1 : ¬ p.index < 0 := by omega
    have t2 : ¬ p.total ≤ p.index := by omega
    clear hc hl ha hal hk0 e
    go_enter Tryd.func36, Tryd.ntmps36
    go_wp2_with (go_at_call 70
                 refine HC.out.mono ?_
                 rintro e w1 ⟨⟨v1, x1, rfl, hb1, hx1, hy1⟩, hk1⟩
                 have HB1 := Lib.hid hb1
                 have HK1 := Lib.hid hk1
                 have HY1 := Lib.hid hy1
                 clear hb1 hk1 hy1)
    go_ret2
    exact ⟨⟨v1, x1, rfl, HB1.out, hx1, HY1.out⟩, HK0.out.trans HK1.out⟩
  · have e : climbP p = none := if_neg hg
    rw [e]
    clear hl ha hal hk0 e
    by_cases t0 : p.total ≤ 0
    · clear hg
      go_enter Tryd.func36, Tryd.ntmps36
      go_wp2_with fail
      go_ret2
      exact ⟨⟨_, [], rfl, Slc.nil_, by simp, fun y hy => by cases hy⟩, HK0.out⟩
    · by_cases t1 : p.index < 0
      · clear hg
        go_enter Tryd.func36, Tryd.ntmps36
        go_wp2_with fail
        go_ret2
        exact ⟨⟨_, [], rfl, Slc.nil_, by simp, fun y hy => by cases hy⟩, HK0.out⟩
      · have t2 : p.total ≤ p.index := by omega
        clear hg
        go_enter Tryd.func36, Tryd.ntmps36
        go_wp2_with fail
        go_ret2
        exact ⟨⟨_, [], rfl, Slc.nil_, by simp, fun y hy => by cases hy⟩, HK0.out⟩
end Go.Proofs.YtfodkjpjejoemaaDoor
