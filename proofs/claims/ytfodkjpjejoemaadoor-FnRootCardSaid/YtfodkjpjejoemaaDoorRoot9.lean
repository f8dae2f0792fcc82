/-
  Roots of trees: the thin call, and the law FnRoot walked: it answers true.
  Conditions: the arguments read as a list of slices of bytes and a number; SHA-256's table holds its numbers.
-/
import Derived.Test.YtfodkjpjejoemaaDoorRoot8
import Derived.Test.YtfodkjpjejoemaaDoorMany
import Derived.Test.YtfodkjpjejoemaaDoorSame
import Derived.Test.YtfodkjpjejoemaaDoorValid1
namespace Go.Proofs.YtfodkjpjejoemaaDoor
open Go Go.RowKit
attribute [local go_sem ↓] Go.wp_at_zero Go.wp_at_succ

set_option maxHeartbeats 1000000 in
theorem iRoot_any (again : Bool) (v : Value) (L : List (List UInt8)) (w : World) (hv : Mat w v L) (hK : KTab w) (hL : L.length ≤ 1073741824) (hb : ∀ x ∈ L, x.length ≤ 1073741824) :
    Calls Tryd.prog 29 #[v, .bool again] w fun e w' => ∃ v', e = .returned v' ∧ Byts w' v' (rootS L) ∧ Keep w w' := by
  have HR := Lib.hid (hashRec_any v L w hv hK hL hb)
  have HI := Lib.hid (hashIter_any v L w hv hK hL hb)
  clear hv hK hb
  cases again
  · go_enter Tryd.func29, Tryd.ntmps29
    go_wp2_with (first
      | (go_at_call 94
         refine HR.out.mono ?_
         rintro e w1 ⟨v1, rfl, hb1, hk1⟩
         have HB1 := Lib.hid hb1
         have HK1 := Lib.hid hk1
         clear hb1 hk1)
      | go_in)
    go_ret
    exact ⟨v1, rfl, HB1.out, HK1.out⟩
  · go_enter Tryd.func29, Tryd.ntmps29
    go_wp2_with (first
      | (go_at_call 93
         refine HI.out.mono ?_
         rintro e w1 ⟨v1, rfl, hb1, hk1⟩
         have HB1 := Lib.hid hb1
         have HK1 := Lib.hid hk1
         clear hb1 hk1)
      | go_in)
    go_ret
    exact ⟨v1, rfl, HB1.out, HK1.out⟩

theorem number_of (z : Int) (h1 : -9223372036854775808 ≤ z) (h2 : z ≤ 9223372036854775807) :
    ∃ n : Nat, wrap64 (2 + (max z (wrap64 (-wrap64 (z + 1)))).tmod 4611686018427387904) = (n : Int) ∧ 2 ≤ n ∧ n ≤ 4611686018427387905 := by
  obtain ⟨q, hq⟩ : ∃ q, q = max z (wrap64 (-wrap64 (z + 1))) := ⟨_, rfl⟩
  have hq0 : 0 ≤ q := by
    rw [hq]; unfold wrap64; omega
  rw [← hq, Int.tmod_eq_emod_of_nonneg hq0]
  exact ⟨(2 + q % 4611686018427387904).toNat, by unfold wrap64; omega, by omega, by omega⟩

set_option maxRecDepth 100000 in
set_option maxHeartbeats 2000000 in
theorem fnRoot_walk (v : Value) (L : List (List UInt8)) (z : Int) (w : World) (hv : Mat w v L) (hK : KTab w) (hz1 : -9223372036854775808 ≤ z) (hz2 : z ≤ 9223372036854775807) :
    Calls Tryd.prog 7 #[v, .int .i64 z] w fun e w' => e = .returned (.bool true) ∧ Keep w w' := by
  have HV := Lib.hid hv
  have HK := Lib.hid hK
  clear hv hK
  cases hf : fits1 L with
  | false =>
    have HF := Lib.hid hf
    clear hf
    go_enter Tryd.func7, Tryd.ntmps7
    go_wp2_with (go_at_call 26; refine (zzFits1_any v L _ HV.out).mono ?_; rintro e w1 ⟨rfl, rfl⟩; rw [HF.out])
    go_ret
    exact ⟨rfl, Kp.refl _ _⟩
  | true =>
    have HF := Lib.hid hf
    clear hf
    have HML := Lib.hid (manyL_length L)
    have HMP := Lib.hid (manyL_part L)
    obtain ⟨M, hM⟩ : ∃ M, M = manyL L := ⟨_, rfl⟩
    rw [← hM] at HML HMP
    have HM := Lib.hid hM
    have HMP2 : Hid (∀ b ∈ M, b.length ≤ 1073741824) := Lib.hid fun b hb => Nat.le_trans (HMP.out b hb) (by omega)
    obtain ⟨n, hn, hn2, hn3⟩ := number_of z hz1 hz2
    have HS1 := Lib.hid (fun wx : World => iSplit_any n wx hn2 hn3)
    have HS2 := Lib.hid (fun wx : World => specSplit_any n wx hn2 hn3)
    obtain ⟨q, hq⟩ : ∃ q, q = splt n := ⟨_, rfl⟩
    rw [← hq] at HS1 HS2
    clear hM hz1 hz2 hq
    go_enter Tryd.func7, Tryd.ntmps7
    go_wp2_with (first
      | (go_at_call 26; refine (zzFits1_any v L _ HV.out).mono ?_; rintro e w1 ⟨rfl, rfl⟩; rw [HF.out])
      | (go_at_call 27
         refine (many_any v L _ HV.out).mono ?_
         rintro e w1 ⟨v1, rfl, hm1, hk1⟩
         rw [← HM.out] at hm1
         have HM1 := Lib.hid hm1
         have HK1 := Lib.hid hk1
         clear hm1 hk1)
      | (go_at_call 28
         refine (specRoot_n M.length M v1 _ (Nat.le_refl _) HM1.out (by have := HML.out; omega) HMP2.out).mono ?_
         rintro e w2 ⟨v2, rfl, hb2, hk2⟩
         have HB2 := Lib.hid hb2
         have HK2 := Lib.hid (HK1.out.trans hk2)
         have HM2 := Lib.hid (Mat.keep HM1.out hk2)
         clear hb2 hk2))
    refine (iRoot_any false v1 M _ HM2.out (HK.out.keep HK2.out (fun x => x)) (by have := HML.out; omega) HMP2.out).mono ?_
    rintro e w3 ⟨v3, rfl, hb3, hk3⟩
    have HB3 := Lib.hid hb3
    have HB23 := Lib.hid (Byts.keep HB2.out hk3)
    have HK3 := Lib.hid (HK2.out.trans hk3)
    have HM3 := Lib.hid (Mat.keep HM2.out hk3)
    clear hb3 hk3
    go_wp2_with fail
    refine (same2_any v3 v2 (rootS M) (rootS M) _ HB3.out HB23.out).mono ?_
    rintro e w4 ⟨rfl, rfl⟩
    rw [show (rootS M == rootS M) = true by simp]
    go_wp2_with fail
    refine (iRoot_any true v1 M _ HM3.out (HK.out.keep HK3.out (fun x => x)) (by have := HML.out; omega) HMP2.out).mono ?_
    rintro e w5 ⟨v5, rfl, hb5, hk5⟩
    have HB5 := Lib.hid hb5
    have HB25 := Lib.hid (Byts.keep HB23.out hk5)
    have HK5 := Lib.hid (HK3.out.trans hk5)
    clear hb5 hk5
    go_wp2_with fail
    refine (same2_any v5 v2 (rootS M) (rootS M) _ HB5.out HB25.out).mono ?_
    rintro e w6 ⟨rfl, rfl⟩
    rw [show (rootS M == rootS M) = true by simp]
    go_wp2_with (first
      | (go_at_call 30
         refine (HS1.out _).mono ?_
         rintro e w7 ⟨rfl, rfl⟩)
      | (go_at_call 31
         refine (HS2.out _).mono ?_
         rintro e w8 ⟨rfl, rfl⟩))
    go_ret
    exact ⟨rfl, HK5.out⟩
end Go.Proofs.YtfodkjpjejoemaaDoor
