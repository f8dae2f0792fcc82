
/-
  Chains of trees: the law FnChained walked: it answers true.
  Conditions: the arguments read as lists of bytes, numbers, bytes and text; the tables hold what they hold.
-/
import Derived.Test.YtfodkjpjejoemaaGreatDoorChainL
import Derived.Deep.RegionLaw
import Derived.Deep.DeepCutAuto
import Derived.Test.YtfodkjpjejoemaaGreatDoorChain1
import Derived.Test.YtfodkjpjejoemaaGreatDoorChain4
namespace Go.Proofs.YtfodkjpjejoemaaGreatDoor
open Go Go.RowKit
attribute [local go_sem ↓] Go.wp_at_zero Go.wp_at_succ

/-- a list of numbers -/
def IntR (_ : World) (u : Value) (z : Int) : Prop := u = .int .i64 z ∧ -9223372036854775808 ≤ z ∧ z ≤ 9223372036854775807
abbrev Ints (w : World) (v : Value) (L : List Int) : Prop := Slc IntR w v L

theorem place_of2 (z : Int) (m : Nat) (hm : 0 < m) (hm2 : m ≤ 300) (h1 : -9223372036854775808 ≤ z) (h2 : z ≤ 9223372036854775807) :
    ∃ a : Nat, (max z (IntKind.i64.wrap (-IntKind.i64.wrap (z + 1)))).tmod (m : Int) = (a : Int) ∧ a < m := by
  obtain ⟨q, hq⟩ : ∃ q, q = max z (IntKind.i64.wrap (-IntKind.i64.wrap (z + 1))) := ⟨_, rfl⟩
  have hq0 : 0 ≤ q := by
    rw [hq, IntKind.wrap_i64, IntKind.wrap_i64]; omega
  rw [← hq, Int.tmod_eq_emod_of_nonneg hq0]
  have h3 := Int.emod_nonneg q (show (m : Int) ≠ 0 by omega)
  have h4 := Int.emod_lt_of_pos q (show (0 : Int) < m by omega)
  exact ⟨(q % m).toNat, by omega, by omega⟩
set_option maxRecDepth 100000 in
set_option maxHeartbeats 8000000 in
theorem fnChained_walk (kv0 vv0 pv0 xv rv : Value) (K V : List (List UInt8)) (P : List Int) (X R : List UInt8) (s : ByteArray) (w : World) (hk : Mat w kv0 K) (hv : Mat w vv0 V) (hp : Ints w pv0 P) (hx : Byts w xv X) (hr : Byts w rv R) (hE : Env w) :
    Calls Tryz.prog 3 #[kv0, vv0, pv0, xv, rv, .string s] w fun e w' => e = .returned (.bool true) ∧ Keep w w' := by
  have HKV := Lib.hid hk
  have HVV := Lib.hid hv
  have HPV := Lib.hid hp
  have HX := Lib.hid hx
  have HR := Lib.hid hr
  have HE := Lib.hid hE
  obtain ⟨A2, c2, rfl, p1, p2, p3, p4⟩ := hp
  obtain ⟨A3, c3, rfl, x1, x2, -, -⟩ := hx
  obtain ⟨A4, c4, rfl, r1, r2, -, -⟩ := hr
  unfold maxLen at p2 x2 r2
  have P4 := Lib.hid p4
  clear hk hv hE p3 p4
  cases hf1 : fits1 K with
  | false =>
    have HF1 := Lib.hid hf1
    clear hf1
    go_enter Tryz.func3, Tryz.ntmps3
    go_wp2_with (go_at_call_of 4 kv0; refine (zzFits1_any kv0 K _ HKV.out).mono ?_; rintro e w1 ⟨rfl, rfl⟩; rw [HF1.out])
    go_ret
    exact ⟨rfl, Kp.refl _ _⟩
  | true =>
    have HF1 := Lib.hid hf1
    clear hf1
    cases hf2 : fits1 V with
    | false =>
      have HF2 := Lib.hid hf2
      clear hf2
      go_enter Tryz.func3, Tryz.ntmps3
      go_wp2_with (first
        | (go_at_call_of 4 kv0; refine (zzFits1_any kv0 K _ HKV.out).mono ?_; rintro e w1 ⟨rfl, rfl⟩; rw [HF1.out])
        | (go_at_call_of 4 vv0; refine (zzFits1_any vv0 V _ HVV.out).mono ?_; rintro e w1 ⟨rfl, rfl⟩; rw [HF2.out]))
      go_ret
      exact ⟨rfl, Kp.refl _ _⟩
    | true =>
      have HF2 := Lib.hid hf2
      clear hf2
      by_cases hbig : 2147483647 < P.length ∨ 2147483647 < X.length ∨ 2147483647 < R.length ∨ 2147483647 < s.size
      · by_cases h1 : 2147483647 < P.length
        · have hi1 : (2147483647 : Int) < (P.length : Int) := by omega
          clear hbig
          go_enter Tryz.func3, Tryz.ntmps3
          go_wp2_with (first
            | (go_at_call_of 4 kv0; refine (zzFits1_any kv0 K _ HKV.out).mono ?_; rintro e w1 ⟨rfl, rfl⟩; rw [HF1.out])
            | (go_at_call_of 4 vv0; refine (zzFits1_any vv0 V _ HVV.out).mono ?_; rintro e w1 ⟨rfl, rfl⟩; rw [HF2.out]))
          go_ret
          exact ⟨rfl, Kp.refl _ _⟩
        · have hi1 : ¬ (2147483647 : Int) < (P.length : Int) := by omega
          by_cases h2 : 2147483647 < X.length
          · have hi2 : (2147483647 : Int) < (X.length : Int) := by omega
            clear hbig
            go_enter Tryz.func3, Tryz.ntmps3
            go_wp2_with (first
              | (go_at_call_of 4 kv0; refine (zzFits1_any kv0 K _ HKV.out).mono ?_; rintro e w1 ⟨rfl, rfl⟩; rw [HF1.out])
              | (go_at_call_of 4 vv0; refine (zzFits1_any vv0 V _ HVV.out).mono ?_; rintro e w1 ⟨rfl, rfl⟩; rw [HF2.out]))
            go_ret
            exact ⟨rfl, Kp.refl _ _⟩
          · have hi2 : ¬ (2147483647 : Int) < (X.length : Int) := by omega
            by_cases h3 : 2147483647 < R.length
            · have hi3 : (2147483647 : Int) < (R.length : Int) := by omega
              clear hbig
              go_enter Tryz.func3, Tryz.ntmps3
              go_wp2_with (first
                | (go_at_call_of 4 kv0; refine (zzFits1_any kv0 K _ HKV.out).mono ?_; rintro e w1 ⟨rfl, rfl⟩; rw [HF1.out])
                | (go_at_call_of 4 vv0; refine (zzFits1_any vv0 V _ HVV.out).mono ?_; rintro e w1 ⟨rfl, rfl⟩; rw [HF2.out]))
              go_ret
              exact ⟨rfl, Kp.refl _ _⟩
            · have hi3 : ¬ (2147483647 : Int) < (R.length : Int) := by omega
              have h4 : 2147483647 < s.size := by omega
              have hi4 : (2147483647 : Int) < (s.size : Int) := by omega
              clear hbig
              go_enter Tryz.func3, Tryz.ntmps3
              go_wp2_with (first
                | (go_at_call_of 4 kv0; refine (zzFits1_any kv0 K _ HKV.out).mono ?_; rintro e w1 ⟨rfl, rfl⟩; rw [HF1.out])
                | (go_at_call_of 4 vv0; refine (zzFits1_any vv0 V _ HVV.out).mono ?_; rintro e w1 ⟨rfl, rfl⟩; rw [HF2.out]))
              go_ret
              exact ⟨rfl, Kp.refl _ _⟩
      · have hP31 : P.length ≤ 2147483647 := by omega
        have hX31 : X.length ≤ 2147483647 := by omega
        have hR31 : R.length ≤ 2147483647 := by omega
        have hS31 : s.size ≤ 2147483647 := by omega
        have hP31i : ¬ (2147483647 : Int) < (P.length : Int) := by omega
        have hX31i : ¬ (2147483647 : Int) < (X.length : Int) := by omega
        have hR31i : ¬ (2147483647 : Int) < (R.length : Int) := by omega
        have hS31i : ¬ (2147483647 : Int) < (s.size : Int) := by omega
        have HML := Lib.hid (manyL_length K)
        have HMP := Lib.hid (manyL_part K)
        obtain ⟨K', hK'⟩ : ∃ M, M = manyL K := ⟨_, rfl⟩
        rw [← hK'] at HML HMP
        have HKM := Lib.hid hK'
        have HNL := Lib.hid (manyL_length V)
        have HNP := Lib.hid (manyL_part V)
        obtain ⟨V', hV'⟩ : ∃ M, M = manyL V := ⟨_, rfl⟩
        rw [← hV'] at HNL HNP
        have HVM := Lib.hid hV'
        obtain ⟨a, ha⟩ : ∃ a, a = K'.length := ⟨_, rfl⟩
        obtain ⟨b, hb⟩ : ∃ b, b = V'.length := ⟨_, rfl⟩
        obtain ⟨n, hn⟩ : ∃ n, n = min (min a b) 6 := ⟨_, rfl⟩
        obtain ⟨N, hN⟩ : ∃ N, N = min P.length 4 := ⟨_, rfl⟩
        have hminN : min (P.length : Int) 4 = (N : Int) := by omega
        have hNP : N ≤ P.length := by omega
        have hN4 : N ≤ 4 := by omega
        have hna : n ≤ a := by omega
        have hnb : n ≤ b := by omega
        have hn6 : n ≤ 6 := by omega
        have hm3 : ∀ w : World, (Builtin.min_ #[3, 3, 3] 3 #[.int .i64 (a : Int), .int .i64 (b : Int), .int .i64 6]).run Tryz.prog w = .ok (.int .i64 (n : Int)) w := fun w => by
          have e : (if (6 : Int) < (if (b : Int) < (a : Int) then (b : Int) else (a : Int)) then (6 : Int) else (if (b : Int) < (a : Int) then (b : Int) else (a : Int))) = (n : Int) := by split <;> split <;> omega
          simp only [Builtin.min_]
          simp [Builtin.min2]
          first | omega | (rw [← e]) | (simpa using e)
        have ha300 : a ≤ 300 := by rw [ha]; exact HML.out
        have hb300 : b ≤ 300 := by rw [hb]; exact HNL.out
        have HAL := Lib.hid ha
        have HBL := Lib.hid hb
        clear hK' hV' ha hb hn hN hbig
        go_enter Tryz.func3, Tryz.ntmps3
        go_wp2_with (first
          | (go_at_call_of 4 kv0; refine (zzFits1_any kv0 K _ HKV.out).mono ?_; rintro e w1 ⟨rfl, rfl⟩; rw [HF1.out])
          | (go_at_call_of 4 vv0; refine (zzFits1_any vv0 V _ HVV.out).mono ?_; rintro e w1 ⟨rfl, rfl⟩; rw [HF2.out])
          | (go_at_call_of 5 kv0
             refine (many_any kv0 K _ HKV.out).mono ?_
             rintro e wk ⟨kv, rfl, hmk, hkk⟩
             rw [← HKM.out] at hmk
             have HMK := Lib.hid hmk
             have HKK := Lib.hid hkk
             obtain ⟨Ak, ck, rfl, ak1, ak2, -, ak4⟩ := hmk
             rw [← HAL.out] at ak1 HMK ⊢
             have AK4 := Lib.hid ak4
             clear hkk ak4)
          | (go_at_call_of 5 vv0
             refine (many_any vv0 V _ (HVV.out.keep HKK.out)).mono ?_
             rintro e w1 ⟨vv, rfl, hmv, hkv⟩
             rw [← HVM.out] at hmv
             have HMV := Lib.hid hmv
             have HK1 := Lib.hid (HKK.out.trans hkv)
             have HKV1 := Lib.hid hkv
             have HMK1 := Lib.hid (Mat.keep HMK.out hkv)
             obtain ⟨Av, cv, rfl, av1, av2, -, av4⟩ := hmv
             rw [← HBL.out] at av1 HMV ⊢
             have AV4 := Lib.hid av4
             clear hkv av4))
        go_loopw [12, 13, 14, 15, 16, 17, 68] (fun v12 ov uv fv nv kv iv wr => ∃ (i : Nat) (O : List Opn) (fs nw : List UInt8), i ≤ N ∧ v12 = .bool false ∧ iv = .int .i64 i ∧ O.length = i ∧ LSt w1 wr O fs nw ov uv fv nv kv) (fun _ _ _ _ _ _ iv _ => N - (intOf iv).toNat)
        case atStart => exact ⟨0, [], [], [], Nat.zero_le _, rfl, rfl, rfl, LSt.start w1⟩
        case round =>
          obtain ⟨i, O, fs, nw, hi, rfl, rfl, hol, hst⟩ := hrel
          have HST := Lib.hid hst
          have HOL := Lib.hid hol
          have HKP := Lib.hid (show Keep w1 wr by obtain ⟨_, _, _, _, _, _, _, _, _, _, _, _, h⟩ := hst; exact h)
          clear hst hol
          by_cases hlt : i < N
          · rcases Nat.eq_zero_or_pos n with hn0 | hnp
            · subst hn0
              go_wp2_with fail
              go_ret
              exact ⟨rfl, HK1.out.trans HKP.out⟩
            · have hiP : i < P.length := by omega
              obtain ⟨b2, o2, rfl, hcp⟩ := P4.out (by omega)
              obtain ⟨u, hu, hur⟩ := hcp i hiP
              obtain ⟨z, hz⟩ : ∃ z, z = P[i] := ⟨_, rfl⟩
              rw [← hz] at hur
              obtain ⟨rfl, hz1, hz2⟩ := hur
              have hu2 := (HK1.out.trans HKP.out).cell_of hu (fun x => x)
              obtain ⟨q, hq, hqn⟩ := place_of2 z n hnp (by omega) hz1 hz2
              have hq' : ¬ (n : Int) = 0 := by omega
              have hq2 : ¬ n = 0 := by omega
              have hq3 : ((n : Int) == 0) = false := by rw [beq_eq_false_iff_ne]; omega
              clear hcp hu hz
              go_upto_region 14 with fail
              go_cut [21] (fun v9 w9 => v9 = .int .i64 (q : Int) ∧ Keep wr w9)
              case first =>
                go_region_law (fail)
                all_goals
                  go_wp2_with fail
                  go_meet
                  exact ⟨by first | rfl | rw [hq], (Kp.refl _ _).drew⟩
              case rest =>
              rename World => wq
              obtain ⟨rfl, hkc⟩ := hcut
              have HKC := Lib.hid hkc
              obtain ⟨io0, iio, hzo0, hzo1, hzo2⟩ := info_parts infoOp
              obtain ⟨L, us, horow, hLl, hLe, huo, hul, hue, hook, hnw, hnwl, hlk, -⟩ := HST.out
              have HRW := Lib.hid horow
              have HLL := Lib.hid hLl
              have HLE := Lib.hid hLe
              obtain ⟨Au9, cu9, hu14, u2b, u3b, u4b, -⟩ := huo.form
              subst hu14
              have HUO := Lib.hid huo
              have HU4 := Lib.hid u4b
              have hus4 : us.length ≤ 4 := by rw [hul, HOL.out]; omega
              have hLl4 : L.length ≤ 4 := by rw [hLl, HOL.out]; omega
              have HUL := Lib.hid hul
              have HUE := Lib.hid hue
              have HOOK := Lib.hid hook
              have HNW := Lib.hid hnw
              have HLK := Lib.hid hlk
              obtain ⟨bk, ok, rfl, hck⟩ := AK4.out (by rw [← HAL.out]; omega)
              obtain ⟨bv, ov9, rfl, hcv⟩ := AV4.out (by rw [← HBL.out]; omega)
              have HCK : Hid (∀ i (h : i < K'.length), ∃ u, w1.cell? ⟨bk, ok + i, none⟩ = some u ∧ Byts w1 u K'[i]) := Lib.hid fun i h => by
                obtain ⟨u, hu, hr⟩ := hck i h
                exact ⟨u, HKV1.out.cell_of hu (fun x => x), hr.keep HKV1.out⟩
              have HCV := Lib.hid hcv
              obtain ⟨kq, hkq0⟩ : ∃ kq, kq = K'[q]'(by rw [← HAL.out]; omega) := ⟨_, rfl⟩
              have hkql : kq.length ≤ 2000 := by rw [hkq0]; exact HMP.out _ (List.getElem_mem _)
              have HKQ := Lib.hid hkq0
              clear hq horow hLl hLe huo hul hue hook hnw hlk hck hcv hkq0 hkc hu2 hq' hq2 hq3 u3b u4b
              rcases Nat.eq_zero_or_pos i with hi0 | hip
              · have hig : ¬ (0 : Int) < (i : Int) := by omega
                have hie : ((i : Int) == 0) = true := by rw [beq_iff_eq]; omega
                have HI0 := Lib.hid hi0
                obtain ⟨vq, hvq⟩ : ∃ vq, vq = V'[q]'(by rw [← HBL.out]; omega) := ⟨_, rfl⟩
                have HVQ := Lib.hid hvq
                have hvql : vq.length ≤ 2000 := by rw [hvq]; exact HNP.out _ (List.getElem_mem _)
                obtain ⟨rfl, rfl, rfl, rfl⟩ : O = [] ∧ u15 = .slice none 0 0 ∧ u16 = .slice none 0 0 ∧ u17 = .slice none 0 0 := by
                  rcases HLK.out with h | ⟨-, -, -, o, t, rfl, -⟩
                  · exact h
                  · have := HOL.out; simp at this; omega
                clear hvq hi0
                go_wp2_with fail
                go_loopw [15, 17, 19, 92] (fun fv2 kv2 lv iv wx => ∃ (k : Nat) (M : List (List UInt8)), k ≤ n ∧ (q < k → Byts w1 fv2 vq ∧ Byts w1 kv2 kq) ∧ iv = .int .i64 k ∧ Outs wx wq.heap.size lv M ∧ M.length = k ∧ (∀ x ∈ M, x.length ≤ 4200) ∧ (∀ h : q < M.length, M[q] = pairS kq vq) ∧ Keep wq wx) (fun _ _ _ iv _ => n - (intOf iv).toNat)
                case atStart => exact ⟨0, [], Nat.zero_le _, fun h => absurd h (by omega), rfl, Outs.nil_ _ _, rfl, fun x h => absurd h (by simp), fun h => absurd h (by simp), Kp.refl _ _⟩
                case round =>
                  obtain ⟨k, M, hkn', hfk, rfl, hout, hml2, hm21, hmq, hkx⟩ := hrel
                  have HFK := Lib.hid hfk
                  have HOUT := Lib.hid hout
                  have HML2 := Lib.hid hml2
                  have HM21 := Lib.hid hm21
                  have HMQ := Lib.hid hmq
                  have HKX := Lib.hid hkx
                  have HKP1 := Lib.hid (HKP.out.trans HKC.out)
                  clear hfk hml2 hm21 hmq hkx
                  by_cases hkn : k < n
                  · obtain ⟨vals, how, hol2, hoe⟩ := hout
                    have HOW := Lib.hid how
                    have HOE := Lib.hid hoe
                    have hvl6 : vals.length ≤ 6 := by rw [hol2, HML2.out]; omega
                    have HOL2 := Lib.hid hol2
                    obtain ⟨Al, cl, rfl, f1, f2, -, -⟩ := how.form
                    obtain ⟨uk, huk, hurk⟩ := HCK.out k (by rw [← HAL.out]; omega)
                    obtain ⟨uv3, huv, hurv⟩ := HCV.out k (by rw [← HBL.out]; omega)
                    have huk2 := (HKP1.out.trans HKX.out).cell_of huk (fun x => x)
                    have huv2 := (HKP1.out.trans HKX.out).cell_of huv (fun x => x)
                    obtain ⟨kk, hkk⟩ : ∃ kk, kk = K'[k]'(by rw [← HAL.out]; omega) := ⟨_, rfl⟩
                    obtain ⟨vk, hvk⟩ : ∃ vk, vk = V'[k]'(by rw [← HBL.out]; omega) := ⟨_, rfl⟩
                    have hkkl : kk.length ≤ 2000 := by rw [hkk]; exact HMP.out _ (List.getElem_mem _)
                    have hvkl : vk.length ≤ 2000 := by rw [hvk]; exact HNP.out _ (List.getElem_mem _)
                    rw [← hkk] at hurk
                    rw [← hvk] at hurv
                    have HKk := Lib.hid hurk
                    have HVk := Lib.hid hurv
                    have HKKK := Lib.hid hkk
                    have HVKK := Lib.hid hvk
                    obtain ⟨Auk, cuk, rfl, -, -, -, -⟩ := hurk
                    obtain ⟨Auv, cuv, rfl, -, -, -, -⟩ := hurv
                    obtain ⟨nuk, hnuk⟩ : ∃ m, m = kk.length := ⟨_, rfl⟩
                    obtain ⟨nuv, hnuv⟩ : ∃ m, m = vk.length := ⟨_, rfl⟩
                    rw [← hnuk] at HKk huk2
                    rw [← hnuv] at HVk huv2
                    have hka1 : k < a := by omega
                    have hkb1 : k < b := by omega
                    clear how hoe hol2 f1 f2 huk huv hkk hvk hnuk hnuv
                    by_cases hkq : k = q
                    · have HQK : Hid (k = q) := Lib.hid hkq
                      have heq : ((k : Int) == (q : Int)) = true := by rw [beq_iff_eq]; omega
                      have HKKQ : Hid (kk = kq) := Lib.hid (by rw [HKKK.out, HKQ.out]; simp only [hkq])
                      clear hkq
                      have HVKQ : Hid (vk = vq) := Lib.hid (by rw [HVKK.out, HVQ.out]; simp only [HQK.out])
                      go_upto_region 22 with fail
                      go_cut [15, 17] (fun v1 v2 w9 => v1 = .slice Auv nuv cuv ∧ v2 = .slice Auk nuk cuk ∧ Keep wr w9)
                      case first =>
                        go_region_law (fail)
                        all_goals
                          go_wp2_with fail
                          go_meet
                          exact ⟨rfl, rfl, (Kp.refl _ _).drew⟩
                      case rest =>
                        rename World => w9
                        obtain ⟨rfl, rfl, hk9⟩ := hcut
                        have huk9 := hk9.cell_of huk2 (fun x => x)
                        have HKX := Lib.hid (HKX.out.trans hk9)
                        have HOW := Lib.hid (HOW.out.keep hk9)
                        have HOE := Lib.hid (fun j hj hj2 => (HOE.out j hj hj2).keep hk9)
                        have HFK2 : Hid (Byts w1 (.slice Auv nuv cuv) vq ∧ Byts w1 (.slice Auk nuk cuk) kq) := Lib.hid ⟨by rw [← HVKQ.out]; exact HVk.out, by rw [← HKKQ.out]; exact HKk.out⟩
                        go_wp2_with (first
                          | (go_at_call 6
                             refine (specPair_any _ _ kk vk _ (HKk.out.keep (HKP1.out.trans HKX.out)) (HVk.out.keep (HKP1.out.trans HKX.out)) (by omega) (by omega)).mono ?_
                             rintro e w5 ⟨r5, rfl, ho5, hk5⟩
                             have hrl := pairS_length kk vk (by omega)
                             have HRL := Lib.hid hrl
                             obtain ⟨A5, c5, rfl, -, -, -, -⟩ := ho5.form
                             obtain ⟨n5, hn5⟩ : ∃ n5, n5 = ((pairS kk vk).map u8v).length := ⟨_, rfl⟩
                             have HO5 := Lib.hid (Own.lower ho5 HKX.out.size)
                             rw [← hn5] at HO5 ⊢
                             have HK5 := Lib.hid hk5
                             clear ho5 hk5 hn5 hrl)
                          | (at_builtin
                             refine wpList_app (news := [.slice A5 n5 c5]) rfl (.tmp 119) (.tmp 126) 22 rfl appM rfl ((HOW.out.keep HK5.out).alloc _) rfl (Src.one (by simp)) (by intro u hu; simp at hu; subst hu; rfl) (fun e => by cases e) (by omega) (by have := HKX.out.size; have := HK5.out.size; simp; omega) ?_
                             intro v6 w6 ho6 hk6 _
                             have HO6 := Lib.hid ho6
                             have HK6 := Lib.hid hk6
                             clear ho6 hk6))
                        go_roundw
                        case rel =>
                          have hka : Keep w5 (w5.alloc (.cells #[.slice A5 n5 c5] 24)) := (Kp.refl _ _).alloc _
                          refine ⟨k + 1, M ++ [pairS kk vk], hkn, (fun _ => HFK2.out), by go_num, Outs.snoc ((HOW.out.keep HK5.out).keep hka) HOL2.out (fun j hj hj2 => ((HOE.out j hj hj2).keep HK5.out).keep hka) (HO5.out.keep hka) HO6.out HK6.out, by rw [List.length_append, HML2.out]; rfl, ?_, ?_, ((HKX.out.trans HK5.out).trans hka).trans' HK6.out (fun j hj e => by have := (HOW.out.lt j e.symm).1; omega)⟩
                          · intro y hy
                            rcases List.mem_append.1 hy with h | h
                            · exact HM21.out y h
                            · simp at h; subst h; have := HRL.out; omega
                          · intro hq9
                            rcases getElem_snoc M (pairS kk vk) q hq9 with ⟨h', e⟩ | ⟨e', e⟩
                            · exfalso; rw [HML2.out] at h'; have := HQK.out; omega
                            · rw [e]; have h8 := HKKQ.out; have h7 := HVKQ.out; rw [h8, h7]
                        case measure => simp [intOf]; omega
                    · have hne : ((k : Int) == (q : Int)) = false := by rw [beq_eq_false_iff_ne]; omega
                      go_wp2_with (first
                        | (go_at_call 6
                           refine (specPair_any _ _ kk vk _ (HKk.out.keep (HKP1.out.trans HKX.out)) (HVk.out.keep (HKP1.out.trans HKX.out)) (by omega) (by omega)).mono ?_
                           rintro e w5 ⟨r5, rfl, ho5, hk5⟩
                           have hrl := pairS_length kk vk (by omega)
                           have HRL := Lib.hid hrl
                           obtain ⟨A5, c5, rfl, -, -, -, -⟩ := ho5.form
                           obtain ⟨n5, hn5⟩ : ∃ n5, n5 = ((pairS kk vk).map u8v).length := ⟨_, rfl⟩
                           have HO5 := Lib.hid (Own.lower ho5 HKX.out.size)
                           rw [← hn5] at HO5 ⊢
                           have HK5 := Lib.hid hk5
                           clear ho5 hk5 hn5 hrl)
                        | (at_builtin
                           refine wpList_app (news := [.slice A5 n5 c5]) rfl (.tmp 119) (.tmp 126) 22 rfl appM rfl ((HOW.out.keep HK5.out).alloc _) rfl (Src.one (by simp)) (by intro u hu; simp at hu; subst hu; rfl) (fun e => by cases e) (by omega) (by have := HKX.out.size; have := HK5.out.size; simp; omega) ?_
                           intro v6 w6 ho6 hk6 _
                           have HO6 := Lib.hid ho6
                           have HK6 := Lib.hid hk6
                           clear ho6 hk6))
                      go_roundw
                      case rel =>
                        have hka : Keep w5 (w5.alloc (.cells #[.slice A5 n5 c5] 24)) := (Kp.refl _ _).alloc _
                        refine ⟨k + 1, M ++ [pairS kk vk], hkn, (fun h => HFK.out (by omega)), by go_num, Outs.snoc ((HOW.out.keep HK5.out).keep hka) HOL2.out (fun j hj hj2 => ((HOE.out j hj hj2).keep HK5.out).keep hka) (HO5.out.keep hka) HO6.out HK6.out, by rw [List.length_append, HML2.out]; rfl, ?_, ?_, ((HKX.out.trans HK5.out).trans hka).trans' HK6.out (fun j hj e => by have := (HOW.out.lt j e.symm).1; omega)⟩
                        · intro y hy
                          rcases List.mem_append.1 hy with h | h
                          · exact HM21.out y h
                          · simp at h; subst h; have := HRL.out; omega
                        · intro hq9
                          rcases getElem_snoc M (pairS kk vk) q hq9 with ⟨h', e⟩ | ⟨e', e⟩
                          · rw [e]; exact HMQ.out h'
                          · exact absurd (by rw [e', HML2.out] : q = k) (fun e => hkq e.symm)
                      case measure => simp [intOf]; omega
                  · have hkn3 : k = n := by omega
                    have HMN : Hid (M.length = n) := Lib.hid (by rw [HML2.out]; omega)
                    have hqM : q < M.length := by rw [HMN.out]; exact hqn
                    have HMq := Lib.hid (HMQ.out hqM)
                    have HMAT := Lib.hid hout.mat
                    have HM6 : Hid (M.length ≤ 6) := Lib.hid (by rw [HMN.out]; omega)
                    obtain ⟨vals, how, -, -⟩ := hout
                    obtain ⟨Al, cl, rfl, -, -, -, -⟩ := how.form
                    obtain ⟨nl, hnl⟩ : ∃ nl, nl = vals.length := ⟨_, rfl⟩
                    rw [← hnl] at HMAT HOUT ⊢
                    obtain ⟨uq, huq, hurq⟩ := HCK.out q (by rw [← HAL.out]; omega)
                    rw [← HKQ.out] at hurq
                    have HUQ := Lib.hid hurq
                    obtain ⟨Aq, cq, rfl, -, -, -, -⟩ := hurq
                    obtain ⟨nq, hnq⟩ : ∃ m, m = kq.length := ⟨_, rfl⟩
                    have HNQ2 := Lib.hid hnq
                    rw [← hnq] at HUQ huq
                    have huq2 := (HKP1.out.trans HKX.out).cell_of huq (fun x => x)
                    have hqa1 : q < a := by omega
                    have hknlt : ¬ k < n := hkn
                    have hnq2 : nq ≤ 2000 := by omega
                    clear how hnl hnq hkn3
                    rcases Nat.eq_zero_or_pos nq with hnq0 | hnqp
                    · go_wp2_with (go_at_call 7
                                   refine (implProofs_any _ M _ HMAT.out (HE.out.k.keep (HK1.out.trans (HKP1.out.trans HKX.out)) (fun x => x)) (by rw [HMN.out]; omega) (fun y hy => by have := HM21.out y hy; omega)).mono ?_
                                   rintro e w2 ⟨hvv, pv, rfl, hb2, hpl2, hk2⟩
                                   have HK2 := Lib.hid hk2
                                   obtain ⟨B, PS, hrow, hpsl, hps⟩ := hpl2
                                   have hpm : PS.length = n := by rw [hpsl, prfs_length, HMN.out]
                                   have hiP : q < PS.length := by rw [hpm]; exact hqn
                                   obtain ⟨gp, cp2, hpe, y0, y1, y2, y3⟩ := hrow.at_ q hiP
                                   rw [hpm] at hpe
                                   subst hpe
                                   have hcp : n ≤ cp2 := by
                                     rcases hrow.2 with ⟨h0, h0'⟩ | ⟨g, cap, cur, he, _, _, h3, _⟩
                                     · omega
                                     · simp only [Value.slice.injEq] at he
                                       obtain ⟨-, -, rfl⟩ := he
                                       omega
                                   obtain ⟨hp1, hp2⟩ := hps q hiP (by rw [prfs_length, HMN.out]; exact hqn)
                                   rw [prfs_at] at hp1 hp2
                                   obtain ⟨p, hp⟩ : ∃ p, p = prfOf M q := ⟨_, rfl⟩
                                   rw [← hp] at hp1 hp2
                                   rw [hp1] at hp2 y0 y1
                                   have HP := Lib.hid hp
                                   obtain ⟨lv9, hlv9⟩ : ∃ lv, lv = PS[q].2.1 := ⟨_, rfl⟩
                                   obtain ⟨av9, hav9⟩ : ∃ av, av = PS[q].2.2 := ⟨_, rfl⟩
                                   rw [← hlv9] at hp2 y2
                                   rw [← hav9] at hp2 y3
                                   have HPV9 := Lib.hid hp2
                                   obtain ⟨Ah, ch, rfl, -, -, -, -⟩ := hb2
                                   obtain ⟨_, _, hag, hlv2, hav2, -⟩ := id hp2
                                   simp only [Value.agg.injEq, Array.mk.injEq, List.cons.injEq] at hag
                                   obtain ⟨-, -, rfl, rfl, -⟩ := hag
                                   obtain ⟨Al9, cl9, rfl, -, -, -, -⟩ := hlv2
                                   obtain ⟨Aa9, ca9, rfl, -, -, -, -⟩ := hav2
                                   have huq3 := hk2.cell_of huq2 (fun x => x)
                                   clear hk2 hrow hpsl hps hpm hlv9 hav9 hp1 hp hp2)
                      go_ret
                      exact ⟨by first | rfl | (simp), (HK1.out.trans (HKP1.out.trans HKX.out)).trans HK2.out⟩
                    · have hnq1 : ¬ (nq : Int) = 0 := by omega
                      have hnq3 : ((nq : Int) == 0) = false := by rw [beq_eq_false_iff_ne]; omega
                      go_upto_region 28 with (go_at_call 7
                                              refine (implProofs_any _ M _ HMAT.out (HE.out.k.keep (HK1.out.trans (HKP1.out.trans HKX.out)) (fun x => x)) (by rw [HMN.out]; omega) (fun y hy => by have := HM21.out y hy; omega)).mono ?_
                                              rintro e w2 ⟨hvv, pv, rfl, hb2, hpl2, hk2⟩
                                              have HK2 := Lib.hid hk2
                                              obtain ⟨B, PS, hrow, hpsl, hps⟩ := hpl2
                                              have hpm : PS.length = n := by rw [hpsl, prfs_length, HMN.out]
                                              have hiP : q < PS.length := by rw [hpm]; exact hqn
                                              obtain ⟨gp, cp2, hpe, y0, y1, y2, y3⟩ := hrow.at_ q hiP
                                              rw [hpm] at hpe
                                              subst hpe
                                              have hcp : n ≤ cp2 := by
                                                rcases hrow.2 with ⟨h0, h0'⟩ | ⟨g, cap, cur, he, _, _, h3, _⟩
                                                · omega
                                                · simp only [Value.slice.injEq] at he
                                                  obtain ⟨-, -, rfl⟩ := he
                                                  omega
                                              obtain ⟨hp1, hp2⟩ := hps q hiP (by rw [prfs_length, HMN.out]; exact hqn)
                                              rw [prfs_at] at hp1 hp2
                                              obtain ⟨p, hp⟩ : ∃ p, p = prfOf M q := ⟨_, rfl⟩
                                              rw [← hp] at hp1 hp2
                                              rw [hp1] at hp2 y0 y1
                                              have HP := Lib.hid hp
                                              obtain ⟨lv9, hlv9⟩ : ∃ lv, lv = PS[q].2.1 := ⟨_, rfl⟩
                                              obtain ⟨av9, hav9⟩ : ∃ av, av = PS[q].2.2 := ⟨_, rfl⟩
                                              rw [← hlv9] at hp2 y2
                                              rw [← hav9] at hp2 y3
                                              have HPV9 := Lib.hid hp2
                                              obtain ⟨Ah, ch, rfl, -, -, -, -⟩ := hb2
                                              obtain ⟨_, _, hag, hlv2, hav2, -⟩ := id hp2
                                              simp only [Value.agg.injEq, Array.mk.injEq, List.cons.injEq] at hag
                                              obtain ⟨-, -, rfl, rfl, -⟩ := hag
                                              obtain ⟨Al9, cl9, rfl, -, -, -, -⟩ := hlv2
                                              obtain ⟨Aa9, ca9, rfl, -, -, -, -⟩ := hav2
                                              have huq3 := hk2.cell_of huq2 (fun x => x)
                                              clear hk2 hrow hpsl hps hpm hlv9 hav9 hp1 hp hp2)
                      have hus2 := HKP1.out.size
                      have hus3 := HKX.out.size
                      have hus5 := HK2.out.size
                      have HRW2 := Lib.hid (((HRW.out.keep HKC.out).keep HKX.out).keep HK2.out)
                      have HOPK := Lib.hid (opn_ok M q kq hqM HM6.out (by rw [← HNQ2.out]; exact hnqp) hkql)
                      go_cut [13] (fun v13 w3 => ∃ dv, ORow 33 w3 w1.heap.size v13 (L ++ [(.slice Aq nq cq, dv)]) ∧ Own w3 w1.heap.size 5 dv ((opMsg kq p).map u8v) ∧ Kp (fun i => some i = Value.ownBlock u13) w2 w3)
                      case first =>
                        go_region_law (first
                          | (go_simp; go_at_call 8
                             refine (opOf_any _ _ kq p _ (HUQ.out.keep ((HKP1.out.trans HKX.out).trans (HK2.out.trans (by repeat (first | exact Kp.refl _ _ | apply Kp.drew | apply Kp.drewN | apply Kp.alloc))))) (by rw [← HNQ2.out]; exact hnqp) (by omega) (HPV9.out.keep (by repeat (first | exact Kp.refl _ _ | apply Kp.drew | apply Kp.drewN | apply Kp.alloc))) (by rw [HP.out]; exact HOPK.out.sm)).mono ?_
                             rintro e w4 ⟨⟨dv, rfl, hdv⟩, hk4⟩
                             have hk24 : Keep w2 w4 := Kp.trans (by repeat (first | exact Kp.refl _ _ | apply Kp.drew | apply Kp.drewN | apply Kp.alloc)) hk4
                             have HK24 := Lib.hid hk24
                             have HDV := Lib.hid (Own.lower hdv (Nat.le_trans (Nat.le_trans (Nat.le_trans hus2 hus3) hus5) (by simp)))
                             obtain ⟨Ad, cd, rfl, -, -, -, -⟩ := hdv.form
                             obtain ⟨nd, hnd⟩ : ∃ nd, nd = ((opMsg kq p).map u8v).length := ⟨_, rfl⟩
                             rw [← hnd] at HDV ⊢
                             clear hdv hk4 hnd hk24)
                          | (refine step_own3 rfl (.tmp 150) (.tmp 160) 27 rfl w1.heap.size 33 io0 (.agg #[.string ⟨#[]⟩, .slice none 0 0, .slice none 0 0]) 3 64 Tryz.underlying27 iio hzo0 hzo1 hzo2 rfl (by decide) _ L.length _ rfl ((HRW2.out.keep HK24.out).keep (by repeat (first | exact Kp.refl _ _ | apply Kp.drew | apply Kp.drewN | apply Kp.alloc))) ⟨w4.heap.size, 0, none⟩ 1 1 [(.string ⟨#[115, 105, 109, 112, 108, 101, 58, 118]⟩), .slice Aq nq cq, .slice Ad nd cd] rfl rfl (news3 rfl) (by intro u hu; simp at hu; rcases hu with rfl | rfl | rfl <;> rfl) (by unfold maxLen; omega) (by omega) (by have := HK24.out.size; simp; omega) ?_
                             intro v5 w5 h5 hg5
                             have HV5 := Lib.hid h5
                             have HG5 := Lib.hid (Kp.of_grown hg5)
                             clear h5 hg5))
                        all_goals
                          go_wp2_with fail
                          go_meet
                          have hka : Keep w4 (w4.alloc (.cells #[(.string ⟨#[115, 105, 109, 112, 108, 101, 58, 118]⟩), .slice Aq nq cq, .slice Ad nd cd] 33)) := (Kp.refl _ _).alloc _
                          refine ⟨.slice Ad nd cd, ?_, (HDV.out.keep hka).kp_orow ((HRW2.out.keep HK24.out).keep hka) (by decide) HG5.out, (HK24.out.keep.trans hka.keep).trans HG5.out⟩
                          unfold ORow
                          rw [cellsO_snoc, List.length_append]
                          exact HV5.out
                      case rest =>
                        rename World => w3
                        obtain ⟨dv, hor3, hdv3, hk3⟩ := hcut
                        have HOR3 := Lib.hid hor3
                        have HDV3 := Lib.hid hdv3
                        have HK3 := Lib.hid hk3
                        have hk12 : Keep w1 w2 := (HKP1.out.trans HKX.out).trans HK2.out
                        have hk13 : Keep w1 w3 := hk12.trans' hk3 (fun i hi e => by have := (HRW2.out.block e.symm).1; omega)
                        have HK12 := Lib.hid hk12
                        have HK13 := Lib.hid hk13
                        have huq4 := hk13.cell_of huq (fun x => x)
                        have hs13 := hk13.size
                        have HUO3 := Lib.hid ((((HUO.out.keep HKC.out).keep HKX.out).keep HK2.out).kp_orow HRW2.out (by decide) hk3)
                        have HUS := Lib.hid (fun (u : Value) (hu : u ∈ us) => show u.oneCell' = true by
                          obtain ⟨j, hj, rfl⟩ := List.mem_iff_getElem.1 hu
                          obtain ⟨_, _, e, -⟩ := HUE.out j hj (by rw [List.length_reverse, List.length_map, ← HUL.out]; exact hj)
                          rw [e]; rfl)
                        have HOU3 := Lib.hid ((HOUT.out.keep HK2.out).kp hk3 (fun i hi e => by have h1 := (HRW.out.block e.symm).2.1; have h2 := HKC.out.size; omega))
                        clear hor3 hdv3 hk3 hk12 hk13
                        go_wp2_with (first
                          | (at_builtin
                             refine wpList_app rfl (.tmp 166) (.tmp 167) 22 rfl appM rfl (Own.made w3 w1.heap.size 24 [.slice Aq nq cq] hs13 (by simp [maxLen])) rfl (HUO3.out.keep (by repeat (first | exact Kp.refl _ _ | apply Kp.drew | apply Kp.drewN | apply Kp.alloc))).src3 HUS.out (fun e => by have := HU4.out e; omega) (by simp; omega) (by simp; omega) ?_
                             intro v6 w6 ho6 hk6 _
                             have HO6 : Hid (Own w6 w1.heap.size 24 v6 (.slice Aq nq cq :: us)) := Lib.hid ho6
                             have hk36 : Keep w3 w6 := Kp.trans' (by repeat (first | exact Kp.refl _ _ | apply Kp.drew | apply Kp.drewN | apply Kp.alloc)) hk6 (fun i hi e => by replace e : some i = some w3.heap.size := e; simp at e; omega)
                             have HK36 := Lib.hid hk36
                             clear ho6 hk6 hk36)
                          | (go_at_call 9
                             refine (specRoot_n M.length M _ _ (Nat.le_refl _) (HOU3.out.keep HK36.out).mat (by have := HM6.out; omega) (fun y hy => by have := HM21.out y hy; omega)).mono ?_
                             rintro e w7 ⟨v7, rfl, hb7, hk7⟩
                             have HB7 := Lib.hid hb7
                             have HK37 := Lib.hid (HK36.out.trans hk7)
                             have HO7 := Lib.hid (HO6.out.keep hk7)
                             clear hb7 hk7))
                        go_roundw
                        case rel =>
                          refine ⟨i + 1, [] ++ [⟨kq, prfOf M q, rootS M⟩], vq, rootS M, by omega, rfl, by go_num, by rw [List.length_append, HOL.out]; rfl, ?_⟩
                          refine LSt.next (L := L) (us := us) (dv := dv) (kqv := .slice Aq nq cq) (HOR3.out.keep HK37.out) HLL.out (fun j h h2 => ⟨(HLE.out j h h2).1, ((((((HLE.out j h h2).2.keep HKC.out).keep HKX.out).keep HK2.out).kp_orow HRW2.out (by decide) HK3.out)).keep HK37.out⟩) HUQ.out (by rw [← HP.out]; exact HDV3.out.keep HK37.out) HO7.out HUL.out HUE.out HOOK.out ⟨HOPK.out, hkql⟩ HB7.out (by show (rootS M).length ≤ _; rw [rootS_length]; omega) (HFK.out (by omega)).1 hvql (by have := HOL.out; exact linked_one vq _ (prf_leaf2 hqM HMq.out)) ⟨_, [], rfl, (HFK.out (by omega)).2⟩ (HK13.out.trans HK37.out)
                        case measure => simp [intOf]; omega
              · have hig : (0 : Int) < (i : Int) := by omega
                have hie : ((i : Int) == 0) = false := by rw [beq_eq_false_iff_ne]; omega
                obtain ⟨vq, hvq⟩ : ∃ vq, vq = nw := ⟨_, rfl⟩
                have hvql : vq.length ≤ 2000 := by rw [hvq]; exact hnwl
                have HVQ := Lib.hid hvq
                obtain ⟨hfs, hfsl, hlk, hhead⟩ : Byts w1 u15 fs ∧ fs.length ≤ 2000 ∧ Linked fs O nw ∧ ∃ o t, O = o :: t ∧ Byts w1 u17 o.key := by
                  rcases HLK.out with ⟨rfl, -⟩ | h
                  · have := HOL.out; simp at this; omega
                  · exact h
                have HFS := Lib.hid hfs
                have HLI := Lib.hid hlk
                have HHD := Lib.hid hhead
                obtain ⟨Anw, cnw, hnv, -, -, -, -⟩ := id HNW.out
                obtain ⟨nnw, hnnw⟩ : ∃ m, m = nw.length := ⟨_, rfl⟩
                rw [← hnnw] at hnv
                subst hnv
                have HNQ : Hid (Byts wq (.slice Anw nnw cnw) vq) := Lib.hid (by rw [hvq]; exact HNW.out.keep HKC.out)
                clear hvq hfs hlk hhead hnnw
                go_wp2_with fail
                go_loopw [15, 17, 19, 92] (fun fv2 kv2 lv iv wx => ∃ (k : Nat) (M : List (List UInt8)), k ≤ n ∧ (fv2 = u15 ∧ kv2 = u17) ∧ iv = .int .i64 k ∧ Outs wx wq.heap.size lv M ∧ M.length = k ∧ (∀ x ∈ M, x.length ≤ 4200) ∧ (∀ h : q < M.length, M[q] = pairS kq vq) ∧ Keep wq wx) (fun _ _ _ iv _ => n - (intOf iv).toNat)
                case atStart => exact ⟨0, [], Nat.zero_le _, ⟨rfl, rfl⟩, rfl, Outs.nil_ _ _, rfl, fun x h => absurd h (by simp), fun h => absurd h (by simp), Kp.refl _ _⟩
                case round =>
                  obtain ⟨k, M, hkn', hfk, rfl, hout, hml2, hm21, hmq, hkx⟩ := hrel
                  have HFK := Lib.hid hfk
                  have HOUT := Lib.hid hout
                  have HML2 := Lib.hid hml2
                  have HM21 := Lib.hid hm21
                  have HMQ := Lib.hid hmq
                  have HKX := Lib.hid hkx
                  have HKP1 := Lib.hid (HKP.out.trans HKC.out)
                  clear hfk hml2 hm21 hmq hkx
                  by_cases hkn : k < n
                  · obtain ⟨vals, how, hol2, hoe⟩ := hout
                    have HOW := Lib.hid how
                    have HOE := Lib.hid hoe
                    have hvl6 : vals.length ≤ 6 := by rw [hol2, HML2.out]; omega
                    have HOL2 := Lib.hid hol2
                    obtain ⟨Al, cl, rfl, f1, f2, -, -⟩ := how.form
                    obtain ⟨uk, huk, hurk⟩ := HCK.out k (by rw [← HAL.out]; omega)
                    obtain ⟨uv3, huv, hurv⟩ := HCV.out k (by rw [← HBL.out]; omega)
                    have huk2 := (HKP1.out.trans HKX.out).cell_of huk (fun x => x)
                    have huv2 := (HKP1.out.trans HKX.out).cell_of huv (fun x => x)
                    obtain ⟨kk, hkk⟩ : ∃ kk, kk = K'[k]'(by rw [← HAL.out]; omega) := ⟨_, rfl⟩
                    obtain ⟨vk, hvk⟩ : ∃ vk, vk = V'[k]'(by rw [← HBL.out]; omega) := ⟨_, rfl⟩
                    have hkkl : kk.length ≤ 2000 := by rw [hkk]; exact HMP.out _ (List.getElem_mem _)
                    have hvkl : vk.length ≤ 2000 := by rw [hvk]; exact HNP.out _ (List.getElem_mem _)
                    rw [← hkk] at hurk
                    rw [← hvk] at hurv
                    have HKk := Lib.hid hurk
                    have HVk := Lib.hid hurv
                    have HKKK := Lib.hid hkk
                    have HVKK := Lib.hid hvk
                    obtain ⟨Auk, cuk, rfl, -, -, -, -⟩ := hurk
                    obtain ⟨Auv, cuv, rfl, -, -, -, -⟩ := hurv
                    obtain ⟨nuk, hnuk⟩ : ∃ m, m = kk.length := ⟨_, rfl⟩
                    obtain ⟨nuv, hnuv⟩ : ∃ m, m = vk.length := ⟨_, rfl⟩
                    rw [← hnuk] at HKk huk2
                    rw [← hnuv] at HVk huv2
                    have hka1 : k < a := by omega
                    have hkb1 : k < b := by omega
                    clear how hoe hol2 f1 f2 huk huv hkk hvk hnuk hnuv
                    by_cases hkq : k = q
                    · have HQK : Hid (k = q) := Lib.hid hkq
                      have heq : ((k : Int) == (q : Int)) = true := by rw [beq_iff_eq]; omega
                      have HKKQ : Hid (kk = kq) := Lib.hid (by rw [HKKK.out, HKQ.out]; simp only [hkq])
                      clear hkq
                      go_wp2_with (first
                        | (go_at_call 6
                           refine (specPair_any _ _ kk vq _ (HKk.out.keep (HKP1.out.trans HKX.out)) (HNQ.out.keep HKX.out) (by omega) (by omega)).mono ?_
                           rintro e w5 ⟨r5, rfl, ho5, hk5⟩
                           have hrl := pairS_length kk vq (by omega)
                           have HRL := Lib.hid hrl
                           obtain ⟨A5, c5, rfl, -, -, -, -⟩ := ho5.form
                           obtain ⟨n5, hn5⟩ : ∃ n5, n5 = ((pairS kk vq).map u8v).length := ⟨_, rfl⟩
                           have HO5 := Lib.hid (Own.lower ho5 HKX.out.size)
                           rw [← hn5] at HO5 ⊢
                           have HK5 := Lib.hid hk5
                           clear ho5 hk5 hn5 hrl)
                        | (at_builtin
                           refine wpList_app (news := [.slice A5 n5 c5]) rfl (.tmp 119) (.tmp 126) 22 rfl appM rfl ((HOW.out.keep HK5.out).alloc _) rfl (Src.one (by simp)) (by intro u hu; simp at hu; subst hu; rfl) (fun e => by cases e) (by omega) (by have := HKX.out.size; have := HK5.out.size; simp; omega) ?_
                           intro v6 w6 ho6 hk6 _
                           have HO6 := Lib.hid ho6
                           have HK6 := Lib.hid hk6
                           clear ho6 hk6))
                      go_roundw
                      case rel =>
                        have hka : Keep w5 (w5.alloc (.cells #[.slice A5 n5 c5] 24)) := (Kp.refl _ _).alloc _
                        refine ⟨k + 1, M ++ [pairS kk vq], hkn, HFK.out, by go_num, Outs.snoc ((HOW.out.keep HK5.out).keep hka) HOL2.out (fun j hj hj2 => ((HOE.out j hj hj2).keep HK5.out).keep hka) (HO5.out.keep hka) HO6.out HK6.out, by rw [List.length_append, HML2.out]; rfl, ?_, ?_, ((HKX.out.trans HK5.out).trans hka).trans' HK6.out (fun j hj e => by have := (HOW.out.lt j e.symm).1; omega)⟩
                        · intro y hy
                          rcases List.mem_append.1 hy with h | h
                          · exact HM21.out y h
                          · simp at h; subst h; have := HRL.out; omega
                        · intro hq9
                          rcases getElem_snoc M (pairS kk vq) q hq9 with ⟨h', e⟩ | ⟨e', e⟩
                          · exfalso; rw [HML2.out] at h'; have := HQK.out; omega
                          · rw [e]; have h8 := HKKQ.out; rw [h8]
                      case measure => simp [intOf]; omega
                    · have hne : ((k : Int) == (q : Int)) = false := by rw [beq_eq_false_iff_ne]; omega
                      go_wp2_with (first
                        | (go_at_call 6
                           refine (specPair_any _ _ kk vk _ (HKk.out.keep (HKP1.out.trans HKX.out)) (HVk.out.keep (HKP1.out.trans HKX.out)) (by omega) (by omega)).mono ?_
                           rintro e w5 ⟨r5, rfl, ho5, hk5⟩
                           have hrl := pairS_length kk vk (by omega)
                           have HRL := Lib.hid hrl
                           obtain ⟨A5, c5, rfl, -, -, -, -⟩ := ho5.form
                           obtain ⟨n5, hn5⟩ : ∃ n5, n5 = ((pairS kk vk).map u8v).length := ⟨_, rfl⟩
                           have HO5 := Lib.hid (Own.lower ho5 HKX.out.size)
                           rw [← hn5] at HO5 ⊢
                           have HK5 := Lib.hid hk5
                           clear ho5 hk5 hn5 hrl)
                        | (at_builtin
                           refine wpList_app (news := [.slice A5 n5 c5]) rfl (.tmp 119) (.tmp 126) 22 rfl appM rfl ((HOW.out.keep HK5.out).alloc _) rfl (Src.one (by simp)) (by intro u hu; simp at hu; subst hu; rfl) (fun e => by cases e) (by omega) (by have := HKX.out.size; have := HK5.out.size; simp; omega) ?_
                           intro v6 w6 ho6 hk6 _
                           have HO6 := Lib.hid ho6
                           have HK6 := Lib.hid hk6
                           clear ho6 hk6))
                      go_roundw
                      case rel =>
                        have hka : Keep w5 (w5.alloc (.cells #[.slice A5 n5 c5] 24)) := (Kp.refl _ _).alloc _
                        refine ⟨k + 1, M ++ [pairS kk vk], hkn, HFK.out, by go_num, Outs.snoc ((HOW.out.keep HK5.out).keep hka) HOL2.out (fun j hj hj2 => ((HOE.out j hj hj2).keep HK5.out).keep hka) (HO5.out.keep hka) HO6.out HK6.out, by rw [List.length_append, HML2.out]; rfl, ?_, ?_, ((HKX.out.trans HK5.out).trans hka).trans' HK6.out (fun j hj e => by have := (HOW.out.lt j e.symm).1; omega)⟩
                        · intro y hy
                          rcases List.mem_append.1 hy with h | h
                          · exact HM21.out y h
                          · simp at h; subst h; have := HRL.out; omega
                        · intro hq9
                          rcases getElem_snoc M (pairS kk vk) q hq9 with ⟨h', e⟩ | ⟨e', e⟩
                          · rw [e]; exact HMQ.out h'
                          · exact absurd (by rw [e', HML2.out] : q = k) (fun e => hkq e.symm)
                      case measure => simp [intOf]; omega
                  · have hkn3 : k = n := by omega
                    have HMN : Hid (M.length = n) := Lib.hid (by rw [HML2.out]; omega)
                    have hqM : q < M.length := by rw [HMN.out]; exact hqn
                    have HMq := Lib.hid (HMQ.out hqM)
                    have HMAT := Lib.hid hout.mat
                    have HM6 : Hid (M.length ≤ 6) := Lib.hid (by rw [HMN.out]; omega)
                    obtain ⟨vals, how, -, -⟩ := hout
                    obtain ⟨Al, cl, rfl, -, -, -, -⟩ := how.form
                    obtain ⟨nl, hnl⟩ : ∃ nl, nl = vals.length := ⟨_, rfl⟩
                    rw [← hnl] at HMAT HOUT ⊢
                    obtain ⟨uq, huq, hurq⟩ := HCK.out q (by rw [← HAL.out]; omega)
                    rw [← HKQ.out] at hurq
                    have HUQ := Lib.hid hurq
                    obtain ⟨Aq, cq, rfl, -, -, -, -⟩ := hurq
                    obtain ⟨nq, hnq⟩ : ∃ m, m = kq.length := ⟨_, rfl⟩
                    have HNQ2 := Lib.hid hnq
                    rw [← hnq] at HUQ huq
                    have huq2 := (HKP1.out.trans HKX.out).cell_of huq (fun x => x)
                    have hqa1 : q < a := by omega
                    have hknlt : ¬ k < n := hkn
                    have hnq2 : nq ≤ 2000 := by omega
                    clear how hnl hnq hkn3
                    rcases Nat.eq_zero_or_pos nq with hnq0 | hnqp
                    · go_wp2_with (go_at_call 7
                                   refine (implProofs_any _ M _ HMAT.out (HE.out.k.keep (HK1.out.trans (HKP1.out.trans HKX.out)) (fun x => x)) (by rw [HMN.out]; omega) (fun y hy => by have := HM21.out y hy; omega)).mono ?_
                                   rintro e w2 ⟨hvv, pv, rfl, hb2, hpl2, hk2⟩
                                   have HK2 := Lib.hid hk2
                                   obtain ⟨B, PS, hrow, hpsl, hps⟩ := hpl2
                                   have hpm : PS.length = n := by rw [hpsl, prfs_length, HMN.out]
                                   have hiP : q < PS.length := by rw [hpm]; exact hqn
                                   obtain ⟨gp, cp2, hpe, y0, y1, y2, y3⟩ := hrow.at_ q hiP
                                   rw [hpm] at hpe
                                   subst hpe
                                   have hcp : n ≤ cp2 := by
                                     rcases hrow.2 with ⟨h0, h0'⟩ | ⟨g, cap, cur, he, _, _, h3, _⟩
                                     · omega
                                     · simp only [Value.slice.injEq] at he
                                       obtain ⟨-, -, rfl⟩ := he
                                       omega
                                   obtain ⟨hp1, hp2⟩ := hps q hiP (by rw [prfs_length, HMN.out]; exact hqn)
                                   rw [prfs_at] at hp1 hp2
                                   obtain ⟨p, hp⟩ : ∃ p, p = prfOf M q := ⟨_, rfl⟩
                                   rw [← hp] at hp1 hp2
                                   rw [hp1] at hp2 y0 y1
                                   have HP := Lib.hid hp
                                   obtain ⟨lv9, hlv9⟩ : ∃ lv, lv = PS[q].2.1 := ⟨_, rfl⟩
                                   obtain ⟨av9, hav9⟩ : ∃ av, av = PS[q].2.2 := ⟨_, rfl⟩
                                   rw [← hlv9] at hp2 y2
                                   rw [← hav9] at hp2 y3
                                   have HPV9 := Lib.hid hp2
                                   obtain ⟨Ah, ch, rfl, -, -, -, -⟩ := hb2
                                   obtain ⟨_, _, hag, hlv2, hav2, -⟩ := id hp2
                                   simp only [Value.agg.injEq, Array.mk.injEq, List.cons.injEq] at hag
                                   obtain ⟨-, -, rfl, rfl, -⟩ := hag
                                   obtain ⟨Al9, cl9, rfl, -, -, -, -⟩ := hlv2
                                   obtain ⟨Aa9, ca9, rfl, -, -, -, -⟩ := hav2
                                   have huq3 := hk2.cell_of huq2 (fun x => x)
                                   clear hk2 hrow hpsl hps hpm hlv9 hav9 hp1 hp hp2)
                      go_ret
                      exact ⟨by first | rfl | (simp), (HK1.out.trans (HKP1.out.trans HKX.out)).trans HK2.out⟩
                    · have hnq1 : ¬ (nq : Int) = 0 := by omega
                      have hnq3 : ((nq : Int) == 0) = false := by rw [beq_eq_false_iff_ne]; omega
                      go_upto_region 28 with (go_at_call 7
                                              refine (implProofs_any _ M _ HMAT.out (HE.out.k.keep (HK1.out.trans (HKP1.out.trans HKX.out)) (fun x => x)) (by rw [HMN.out]; omega) (fun y hy => by have := HM21.out y hy; omega)).mono ?_
                                              rintro e w2 ⟨hvv, pv, rfl, hb2, hpl2, hk2⟩
                                              have HK2 := Lib.hid hk2
                                              obtain ⟨B, PS, hrow, hpsl, hps⟩ := hpl2
                                              have hpm : PS.length = n := by rw [hpsl, prfs_length, HMN.out]
                                              have hiP : q < PS.length := by rw [hpm]; exact hqn
                                              obtain ⟨gp, cp2, hpe, y0, y1, y2, y3⟩ := hrow.at_ q hiP
                                              rw [hpm] at hpe
                                              subst hpe
                                              have hcp : n ≤ cp2 := by
                                                rcases hrow.2 with ⟨h0, h0'⟩ | ⟨g, cap, cur, he, _, _, h3, _⟩
                                                · omega
                                                · simp only [Value.slice.injEq] at he
                                                  obtain ⟨-, -, rfl⟩ := he
                                                  omega
                                              obtain ⟨hp1, hp2⟩ := hps q hiP (by rw [prfs_length, HMN.out]; exact hqn)
                                              rw [prfs_at] at hp1 hp2
                                              obtain ⟨p, hp⟩ : ∃ p, p = prfOf M q := ⟨_, rfl⟩
                                              rw [← hp] at hp1 hp2
                                              rw [hp1] at hp2 y0 y1
                                              have HP := Lib.hid hp
                                              obtain ⟨lv9, hlv9⟩ : ∃ lv, lv = PS[q].2.1 := ⟨_, rfl⟩
                                              obtain ⟨av9, hav9⟩ : ∃ av, av = PS[q].2.2 := ⟨_, rfl⟩
                                              rw [← hlv9] at hp2 y2
                                              rw [← hav9] at hp2 y3
                                              have HPV9 := Lib.hid hp2
                                              obtain ⟨Ah, ch, rfl, -, -, -, -⟩ := hb2
                                              obtain ⟨_, _, hag, hlv2, hav2, -⟩ := id hp2
                                              simp only [Value.agg.injEq, Array.mk.injEq, List.cons.injEq] at hag
                                              obtain ⟨-, -, rfl, rfl, -⟩ := hag
                                              obtain ⟨Al9, cl9, rfl, -, -, -, -⟩ := hlv2
                                              obtain ⟨Aa9, ca9, rfl, -, -, -, -⟩ := hav2
                                              have huq3 := hk2.cell_of huq2 (fun x => x)
                                              clear hk2 hrow hpsl hps hpm hlv9 hav9 hp1 hp hp2)
                      have hus2 := HKP1.out.size
                      have hus3 := HKX.out.size
                      have hus5 := HK2.out.size
                      have HRW2 := Lib.hid (((HRW.out.keep HKC.out).keep HKX.out).keep HK2.out)
                      have HOPK := Lib.hid (opn_ok M q kq hqM HM6.out (by rw [← HNQ2.out]; exact hnqp) hkql)
                      go_cut [13] (fun v13 w3 => ∃ dv, ORow 33 w3 w1.heap.size v13 (L ++ [(.slice Aq nq cq, dv)]) ∧ Own w3 w1.heap.size 5 dv ((opMsg kq p).map u8v) ∧ Kp (fun i => some i = Value.ownBlock u13) w2 w3)
                      case first =>
                        go_region_law (first
                          | (go_simp; go_at_call 8
                             refine (opOf_any _ _ kq p _ (HUQ.out.keep ((HKP1.out.trans HKX.out).trans (HK2.out.trans (by repeat (first | exact Kp.refl _ _ | apply Kp.drew | apply Kp.drewN | apply Kp.alloc))))) (by rw [← HNQ2.out]; exact hnqp) (by omega) (HPV9.out.keep (by repeat (first | exact Kp.refl _ _ | apply Kp.drew | apply Kp.drewN | apply Kp.alloc))) (by rw [HP.out]; exact HOPK.out.sm)).mono ?_
                             rintro e w4 ⟨⟨dv, rfl, hdv⟩, hk4⟩
                             have hk24 : Keep w2 w4 := Kp.trans (by repeat (first | exact Kp.refl _ _ | apply Kp.drew | apply Kp.drewN | apply Kp.alloc)) hk4
                             have HK24 := Lib.hid hk24
                             have HDV := Lib.hid (Own.lower hdv (Nat.le_trans (Nat.le_trans (Nat.le_trans hus2 hus3) hus5) (by simp)))
                             obtain ⟨Ad, cd, rfl, -, -, -, -⟩ := hdv.form
                             obtain ⟨nd, hnd⟩ : ∃ nd, nd = ((opMsg kq p).map u8v).length := ⟨_, rfl⟩
                             rw [← hnd] at HDV ⊢
                             clear hdv hk4 hnd hk24)
                          | (refine step_own3 rfl (.tmp 150) (.tmp 160) 27 rfl w1.heap.size 33 io0 (.agg #[.string ⟨#[]⟩, .slice none 0 0, .slice none 0 0]) 3 64 Tryz.underlying27 iio hzo0 hzo1 hzo2 rfl (by decide) _ L.length _ rfl ((HRW2.out.keep HK24.out).keep (by repeat (first | exact Kp.refl _ _ | apply Kp.drew | apply Kp.drewN | apply Kp.alloc))) ⟨w4.heap.size, 0, none⟩ 1 1 [(.string ⟨#[115, 105, 109, 112, 108, 101, 58, 118]⟩), .slice Aq nq cq, .slice Ad nd cd] rfl rfl (news3 rfl) (by intro u hu; simp at hu; rcases hu with rfl | rfl | rfl <;> rfl) (by unfold maxLen; omega) (by omega) (by have := HK24.out.size; simp; omega) ?_
                             intro v5 w5 h5 hg5
                             have HV5 := Lib.hid h5
                             have HG5 := Lib.hid (Kp.of_grown hg5)
                             clear h5 hg5))
                        all_goals
                          go_wp2_with fail
                          go_meet
                          have hka : Keep w4 (w4.alloc (.cells #[(.string ⟨#[115, 105, 109, 112, 108, 101, 58, 118]⟩), .slice Aq nq cq, .slice Ad nd cd] 33)) := (Kp.refl _ _).alloc _
                          refine ⟨.slice Ad nd cd, ?_, (HDV.out.keep hka).kp_orow ((HRW2.out.keep HK24.out).keep hka) (by decide) HG5.out, (HK24.out.keep.trans hka.keep).trans HG5.out⟩
                          unfold ORow
                          rw [cellsO_snoc, List.length_append]
                          exact HV5.out
                      case rest =>
                        rename World => w3
                        obtain ⟨dv, hor3, hdv3, hk3⟩ := hcut
                        have HOR3 := Lib.hid hor3
                        have HDV3 := Lib.hid hdv3
                        have HK3 := Lib.hid hk3
                        have hk12 : Keep w1 w2 := (HKP1.out.trans HKX.out).trans HK2.out
                        have hk13 : Keep w1 w3 := hk12.trans' hk3 (fun i hi e => by have := (HRW2.out.block e.symm).1; omega)
                        have HK12 := Lib.hid hk12
                        have HK13 := Lib.hid hk13
                        have huq4 := hk13.cell_of huq (fun x => x)
                        have hs13 := hk13.size
                        have HUO3 := Lib.hid ((((HUO.out.keep HKC.out).keep HKX.out).keep HK2.out).kp_orow HRW2.out (by decide) hk3)
                        have HUS := Lib.hid (fun (u : Value) (hu : u ∈ us) => show u.oneCell' = true by
                          obtain ⟨j, hj, rfl⟩ := List.mem_iff_getElem.1 hu
                          obtain ⟨_, _, e, -⟩ := HUE.out j hj (by rw [List.length_reverse, List.length_map, ← HUL.out]; exact hj)
                          rw [e]; rfl)
                        have HOU3 := Lib.hid ((HOUT.out.keep HK2.out).kp hk3 (fun i hi e => by have h1 := (HRW.out.block e.symm).2.1; have h2 := HKC.out.size; omega))
                        clear hor3 hdv3 hk3 hk12 hk13
                        go_wp2_with (first
                          | (at_builtin
                             refine wpList_app rfl (.tmp 166) (.tmp 167) 22 rfl appM rfl (Own.made w3 w1.heap.size 24 [.slice Aq nq cq] hs13 (by simp [maxLen])) rfl (HUO3.out.keep (by repeat (first | exact Kp.refl _ _ | apply Kp.drew | apply Kp.drewN | apply Kp.alloc))).src3 HUS.out (fun e => by have := HU4.out e; omega) (by simp; omega) (by simp; omega) ?_
                             intro v6 w6 ho6 hk6 _
                             have HO6 : Hid (Own w6 w1.heap.size 24 v6 (.slice Aq nq cq :: us)) := Lib.hid ho6
                             have hk36 : Keep w3 w6 := Kp.trans' (by repeat (first | exact Kp.refl _ _ | apply Kp.drew | apply Kp.drewN | apply Kp.alloc)) hk6 (fun i hi e => by replace e : some i = some w3.heap.size := e; simp at e; omega)
                             have HK36 := Lib.hid hk36
                             clear ho6 hk6 hk36)
                          | (go_at_call 9
                             refine (specRoot_n M.length M _ _ (Nat.le_refl _) (HOU3.out.keep HK36.out).mat (by have := HM6.out; omega) (fun y hy => by have := HM21.out y hy; omega)).mono ?_
                             rintro e w7 ⟨v7, rfl, hb7, hk7⟩
                             have HB7 := Lib.hid hb7
                             have HK37 := Lib.hid (HK36.out.trans hk7)
                             have HO7 := Lib.hid (HO6.out.keep hk7)
                             clear hb7 hk7))
                        go_roundw
                        case rel =>
                          refine ⟨i + 1, O ++ [⟨kq, prfOf M q, rootS M⟩], fs, rootS M, by omega, rfl, by go_num, by rw [List.length_append, HOL.out]; rfl, ?_⟩
                          refine LSt.next (L := L) (us := us) (dv := dv) (kqv := .slice Aq nq cq) (HOR3.out.keep HK37.out) HLL.out (fun j h h2 => ⟨(HLE.out j h h2).1, ((((((HLE.out j h h2).2.keep HKC.out).keep HKX.out).keep HK2.out).kp_orow HRW2.out (by decide) HK3.out)).keep HK37.out⟩) HUQ.out (by rw [← HP.out]; exact HDV3.out.keep HK37.out) HO7.out HUL.out HUE.out HOOK.out ⟨HOPK.out, hkql⟩ HB7.out (by show (rootS M).length ≤ _; rw [rootS_length]; omega) (by rw [HFK.out.1]; exact HFS.out) hfsl (linked_snoc O fs nw _ HLI.out (by rw [← HVQ.out]; exact prf_leaf2 hqM HMq.out)) (by obtain ⟨o, t, ho, hb⟩ := HHD.out; exact ⟨o, t ++ [_], by rw [ho]; rfl, by rw [HFK.out.2]; exact hb⟩) (HK13.out.trans HK37.out)
                        case measure => simp [intOf]; omega
          · obtain ⟨L, us, horow, hLl, hLe, huo, hul, hue, hook, hnw, hnwl, hlk, -⟩ := HST.out
            obtain ⟨Ao, co, hov, -, -⟩ := horow.form
            subst hov
            obtain ⟨nL, hnL⟩ : ∃ m, m = L.length := ⟨_, rfl⟩
            rw [← hnL] at horow
            rw [← hnL]
            have hnLi : nL = O.length := by omega
            rcases Nat.eq_zero_or_pos i with hi0 | hip
            · have hz : nL = 0 := by rw [hnLi, HOL.out, hi0]
              subst hz
              clear horow hLl hLe huo hul hue hook hnw hnwl hlk hnL hnLi hi0
              go_wp2_with fail
              go_ret
              exact ⟨rfl, HK1.out.trans HKP.out⟩
            · obtain ⟨hfs, hfsl, hlk2, o, t, hot, hky⟩ : Byts w1 u15 fs ∧ fs.length ≤ 2000 ∧ Linked fs O nw ∧ ∃ o t, O = o :: t ∧ Byts w1 u17 o.key := by
                rcases hlk with ⟨rfl, -⟩ | h
                · have := HOL.out; simp at this; omega
                · exact h
              have hkl9 : o.key.length ≤ 2000 := (hook o (by rw [hot]; exact List.mem_cons_self ..)).2
              have HOPS : Hid (OpsAt wr (.slice Ao nL co) O) := Lib.hid (ORow.ops (L := L) (by have h9 := horow; rw [hnL] at h9 ⊢; exact h9) ⟨hLl, fun j h h2 => ⟨(hLe j h h2).1.keep HKP.out, (hLe j h h2).2.slc_map u8v (fun _ _ => rfl)⟩⟩)
              have HFS := Lib.hid hfs
              have HLI := Lib.hid hlk2
              have HOT := Lib.hid hot
              have HKY := Lib.hid hky
              have HNW := Lib.hid hnw
              have HOK9 := Lib.hid (fun x hx => (hook x hx).1)
              have HKL := Lib.hid (fun x hx => (hook x hx).2)
              have hO4 : O.length ≤ 4 := by rw [HOL.out]; omega
              obtain ⟨KR, hKR⟩ : ∃ KR, KR = (O.map Opn.key).reverse := ⟨_, rfl⟩
              rw [← hKR] at hue
              have HKR := Lib.hid hKR
              have hkrl : KR.length = us.length := by rw [hKR, List.length_reverse, List.length_map, hul]
              have HMU : Hid (Mat wr u14 KR) := Lib.hid (huo.slc hkrl.symm fun j h h2 => (hue j h h2).keep HKP.out)
              have hkp9 : ∀ k ∈ KR, k.length ≤ 2000 := fun k hk => by
                rw [hKR, List.mem_reverse, List.mem_map] at hk
                obtain ⟨x, hx, rfl⟩ := hk
                exact HKL.out x hx
              have HKP9 := Lib.hid hkp9
              obtain ⟨m, hm⟩ : ∃ m, m = KR.length := ⟨_, rfl⟩
              have HM := Lib.hid hm
              have hm4 : m ≤ 4 := by rw [hm, hkrl, hul]; exact hO4
              have hm0 : 0 < m := by rw [hm, hkrl, hul, HOL.out]; exact hip
              have hu14 : ∃ A c, u14 = .slice A m c ∧ m ≤ c ∧ c ≤ maxLen := by
                obtain ⟨A, c, h1, h2, h3, -⟩ := HMU.out
                exact ⟨A, c, by rw [h1, hm], by rw [hm]; exact h2, h3⟩
              obtain ⟨Au, cu, hu14e, hu14a, hu14b⟩ := hu14
              subst hu14e
              unfold maxLen at hu14b
              have hnL1 : 0 < nL := by rw [hnLi, HOL.out]; exact hip
              have hnL3 : ¬ (nL : Int) = 0 := by omega
              have hnL2 : ((nL : Int) == 0) = false := by rw [beq_eq_false_iff_ne]; omega
              obtain ⟨io, hio, hz0, hz1, hz2⟩ := info_parts (show (Tryz.prog.info? 4).map (fun i => (i.zero, i.size, i.bytes)) = some (some (.bool false), 1, 1) by kernel_rfl)
              obtain ⟨BL, hBL⟩ : ∃ BL, BL = (List.replicate m (Value.bool false)).toArray := ⟨_, rfl⟩
              have hmk : ∀ w : World, (Instr.makeSlice 39 (.int .i64 (m : Int)) (.int .i64 (m : Int))).run Tryz.prog w = .ok (.slice (some ⟨w.heap.size, 0, none⟩) m m) (w.alloc (.cells BL 4)) := fun w => by
                rw [hBL]; exact run_make_row1 39 4 io (.bool false) Tryz.underlying39 hio hz0 hz1 rfl m _ _ rfl rfl (by rw [hz2]; omega) (by omega) w
              obtain ⟨w2, hw2⟩ : ∃ w2, w2 = wr.alloc (.cells BL 4) := ⟨_, rfl⟩
              have hk2 : Keep wr w2 := by rw [hw2]; exact (Kp.refl _ _).alloc _
              have hbl : Blns w2 (.slice (some ⟨wr.heap.size, 0, none⟩) m m) (List.replicate m false) := by
                have h9 := Own.made wr wr.heap.size 4 (List.replicate m (Value.bool false)) (Nat.le_refl _) (by rw [List.length_replicate]; unfold maxLen; omega)
                rw [List.length_replicate] at h9
                rw [hw2, hBL]
                have e : List.replicate m (Value.bool false) = (List.replicate m false).map Value.bool := by rw [List.map_replicate]
                have h8 : Own (wr.alloc (.cells (List.replicate m (Value.bool false)).toArray 4)) wr.heap.size 4 (.slice (some ⟨wr.heap.size, 0, none⟩) m m) ((List.replicate m false).map Value.bool) := by rw [← e]; exact h9
                exact h8.slc_map Value.bool (fun _ _ => rfl)
              have hrl : (List.replicate m false).length = m := by simp
              have hpl := pathL_length (KR.zip (List.replicate m false)) 2000 (fun p hp => hkp9 _ (List.of_mem_zip hp).1)
              rw [List.length_zip, ← hm, hrl, Nat.min_self] at hpl
              obtain ⟨S, hS⟩ : ∃ S : ByteArray, S = ⟨(pathL (KR.zip (List.replicate m false))).toArray⟩ := ⟨_, rfl⟩
              have hSd : S.data.toList = pathL (KR.zip (List.replicate m false)) := by rw [hS]
              have hSV : strV (pathL (KR.zip (List.replicate m false))) = .string S := by rw [hS]; rfl
              have hSz : S.size ≤ 100000000 := by
                rw [size_data, hSd]
                have : m * (3 * 2000 + 3) ≤ 4 * (3 * 2000 + 3) := Nat.mul_le_mul_right _ hm4
                omega
              have HSD := Lib.hid hSd
              have HSV := Lib.hid hSV
              have HW2 := Lib.hid hw2
              have HK2 := Lib.hid hk2
              have HE2 := Lib.hid (HE.out.keep ((HK1.out.trans HKP.out).trans hk2))
              have HPT := Lib.hid (pathText_any (.slice Au m cu) (.slice (some ⟨wr.heap.size, 0, none⟩) m m) KR (List.replicate m false) w2 (Mat.keep HMU.out hk2) hbl (by rw [hrl, hm]) (by omega) hkp9 HE2.out.u)
              clear horow hLl hLe huo hul hue hook hnw hlk hnL hfs hlk2 hot hky hKR hkrl hkp9 hm hio hz0 hz1 hz2 hBL hw2 hk2 hbl hrl hpl hS hSd hSV hip hnLi
              go_wp2_with (first
                | (go_at_call 10
                   rw [← HW2.out]
                   refine HPT.out.mono ?_
                   rintro e w3 ⟨rfl, hk3⟩
                   rw [HSV.out]
                   have HK3 := Lib.hid (HK2.out.trans hk3)
                   clear hk3)
                | (go_at_call 11
                   refine (specKeys_any S _ (by omega)).mono ?_
                   rintro e w4 ⟨he, hk4⟩
                   obtain ⟨gv, gb, rfl, hgk⟩ : ∃ gv gb, e = .returned (.tuple #[gv, .bool gb]) ∧ ∀ ks, keysOf S.data.toList = some ks → gb = true ∧ Mat w4 gv ks := by
                     cases h : keysOf S.data.toList with
                     | none => rw [h] at he; obtain rfl := he; exact ⟨_, _, rfl, fun ks e => by cases e⟩
                     | some ks => rw [h] at he; obtain ⟨v, rfl, hm⟩ := he; exact ⟨_, _, rfl, fun ks e => by cases e; exact ⟨rfl, hm⟩⟩
                   have HGK := Lib.hid hgk
                   have HK4 := Lib.hid (HK3.out.trans hk4)
                   clear hk4 hgk he))
              have HMU4 := Lib.hid (Mat.keep HMU.out HK4.out)
              go_loopw [12, 187] (fun v12 iv wx => ∃ j : Nat, j ≤ m ∧ v12 = .bool false ∧ iv = .int .i64 j ∧ (∀ k (h : k < KR.length), k < j → Lib.hasPrefix KR[k] [120, 58] = false) ∧ w4 = wx) (fun _ iv _ => m - (intOf iv).toNat)
              case atStart => exact ⟨0, Nat.zero_le _, rfl, rfl, fun k _ h => absurd h (by omega), by first | rfl | trivial⟩
              case round =>
                obtain ⟨j, hj, rfl, rfl, hal, rfl⟩ := hrel
                have HAL2 := Lib.hid hal
                clear hal
                by_cases hjlt : j < m
                · have hjK : j < KR.length := by rw [← HM.out]; exact hjlt
                  have hk4 := HMU4.out.of_eq.2.2.2.2
                  obtain ⟨g, off, rfl, hc⟩ := hk4 (by omega)
                  obtain ⟨u, hu, hur⟩ := hc j hjK
                  obtain ⟨y, hy⟩ : ∃ y, y = KR[j] := ⟨_, rfl⟩
                  rw [← hy] at hur
                  have HY := Lib.hid hy
                  have HUR := Lib.hid hur
                  obtain ⟨Ay, cy, rfl, q1, q2, -, -⟩ := hur
                  unfold maxLen at q2
                  clear hk4 hc hy
                  by_cases hy2 : y.length < 2
                  · have hy2i : ¬ (2 : Int) ≤ (y.length : Int) := by omega
                    have hpf : Lib.hasPrefix y [120, 58] = false := by
                      cases hq : Lib.hasPrefix y [120, 58] with
                      | false => rfl
                      | true => have := hasPrefix_len y hq; omega
                    have HPF := Lib.hid hpf
                    clear hpf
                    go_wp2_with fail
                    go_roundw
                    case rel =>
                      refine ⟨j + 1, hjlt, rfl, by go_num, ?_, by first | rfl | trivial⟩
                      intro k h1 hj9
                      by_cases hji : k < j
                      · exact HAL2.out k h1 hji
                      · obtain rfl : k = j := by omega
                        rw [← HY.out]; exact HPF.out
                    case measure => simp [intOf]; omega
                  · have hy2i : (2 : Int) ≤ (y.length : Int) := by omega
                    obtain ⟨A9, c9, hs4, hm9⟩ := slc_to (P := Tryz.prog) Tryz.underlying24 szB HUR.out 2 (by omega)
                    have h24 := hm9 _ HUR.out
                    have hy2l : (y.take 2).length = 2 := by rw [List.length_take]; omega
                    replace hs4 : ∀ w', (Instr.slice 24 (.slice Ay y.length cy) none (some (.int .i64 2)) none).run Tryz.prog w' = .ok (.slice A9 2 c9) w' := hs4
                    obtain ⟨S2, hS2⟩ : ∃ S2 : ByteArray, S2 = ⟨(y.take 2).toArray⟩ := ⟨_, rfl⟩
                    have hst : (convert 24 9 (.slice A9 2 c9)).run Tryz.prog w4 = .ok (.string S2) w4 := by
                      rw [byts_string (P := Tryz.prog) Tryz.underlying24 Tryz.underlying5 Tryz.underlying9 h24, hS2]
                    have hpe := not_prefix y S2 (by omega) (by rw [hS2])
                    cases hq : Lib.hasPrefix y [120, 58] with
                    | true =>
                      rw [hq] at hpe
                      clear hm9 h24 hy2l hS2 hq hy2
                      go_wp2_with fail
                      go_ret
                      exact ⟨rfl, (HK1.out.trans HKP.out).trans HK4.out⟩
                    | false =>
                      rw [hq] at hpe
                      have HPF := Lib.hid hq
                      clear hm9 h24 hy2l hS2 hq hy2
                      go_wp2_with fail
                      go_roundw
                      case rel =>
                        refine ⟨j + 1, hjlt, rfl, by go_num, ?_, by first | rfl | trivial⟩
                        intro k h1 hj9
                        by_cases hji : k < j
                        · exact HAL2.out k h1 hji
                        · obtain rfl : k = j := by omega
                          rw [← HY.out]; exact HPF.out
                      case measure => simp [intOf]; omega
                · have hjm : ¬ j < m := hjlt
                  have hko := zip_path KR (List.replicate m false) (by rw [List.length_replicate, HM.out]) (by rw [← HM.out]; exact hm0) (fun k h1 h2 _ => HAL2.out k h1 (by rw [← HM.out] at h1; omega))
                  rw [← HSD.out] at hko
                  obtain ⟨hgb, hgm⟩ := HGK.out KR hko
                  subst hgb
                  have HGM := Lib.hid hgm
                  have hko2 : keysOf S.data.toList = some (O.map Opn.key).reverse := by rw [hko, HKR.out]
                  have hc1 := chain_good O fs nw S.data.toList HLI.out hko2 nw
                  have hc3 := chain_good O fs nw S.data.toList HLI.out hko2 R
                  have hc2 : chainB O nw S.data.toList X = (leafS (pairS o.key X) == leafS (pairS o.key fs)) := by
                    have h1 := HLI.out
                    have h2 := hko2
                    rw [HOT.out] at h1 h2 ⊢
                    exact chain_value o t fs nw _ X h1 h2
                  have hc4 := chain_path O fs nw s.data.toList HLI.out
                  have HC1 : Hid (chainB O nw S.data.toList fs = true) := Lib.hid (by rw [hc1]; simp)
                  have HC2 := Lib.hid hc2
                  have HC3 := Lib.hid hc3
                  have HC4 := Lib.hid hc4
                  have HEX := Lib.hid (HE.out.keep ((HK1.out.trans HKP.out).trans HK4.out))
                  clear hko hgm hko2 hc1 hc2 hc3 hc4
                  go_upto_region 44 with (first
                    | (go_at_call 12
                       refine (equalFunc_any gv _ KR KR _ HGM.out HMU4.out).mono ?_
                       rintro e w5 ⟨rfl, rfl⟩
                       rw [show (KR == KR) = true by simp])
                    | (go_at_call 14
                       refine (chained_any _ _ _ S O nw fs _ (HOPS.out.keep HK4.out) (HNW.out.keep HK4.out) (HFS.out.keep (HKP.out.trans HK4.out)) HOK9.out (by omega) (by omega) (by omega) HEX.out).mono ?_
                       rintro e w5 ⟨rfl, hk5⟩
                       rw [HC1.out]
                       have HK5 := Lib.hid hk5
                       clear hk5))
                  obtain ⟨b1, hb1⟩ : ∃ b1, b1 = (leafS (pairS o.key X) == leafS (pairS o.key fs)) := ⟨_, rfl⟩
                  rw [← hb1] at HC2
                  obtain ⟨b2, hb2⟩ : ∃ b2, b2 = (R == nw) := ⟨_, rfl⟩
                  rw [← hb2] at HC3
                  have HB1 := Lib.hid hb1
                  have HB2 := Lib.hid hb2
                  have hbb : (b1 == b1) = true := by simp
                  clear hb1 hb2
                  cases hks : keysOf s.data.toList with
                  | none =>
                    have HKS := Lib.hid hks
                    have hc4 := HC4.out
                    rw [hks] at hc4
                    have HC5 : Hid (chainB O nw s.data.toList fs = false) := Lib.hid hc4
                    clear hks hc4
                    cases b2
                    all_goals
                      go_wp2_with (first
                        | (go_at_call 11
                           refine (specKeys_any s _ (by omega)).mono ?_
                           rintro e w6 ⟨he, hk6⟩
                           rw [HKS.out] at he
                           obtain rfl := he
                           have HKZ : Hid (Keep w4 w6) := Lib.hid (HK5.out.trans hk6)
                           clear hk6)
                        | (go_at_call_of 14 (Value.slice A3 X.length c3)
                           refine (chained_any _ _ _ S O nw X _ (HOPS.out.keep (HK4.out.trans HKZ.out)) (HNW.out.keep (HK4.out.trans HKZ.out)) (HX.out.keep (((HK1.out.trans HKP.out).trans HK4.out).trans HKZ.out)) HOK9.out (by omega) (by omega) (by omega) (HEX.out.keep HKZ.out)).mono ?_
                           rintro e wz ⟨rfl, hkz⟩
                           rw [HC2.out]
                           have HKZ := Lib.hid (HKZ.out.trans hkz)
                           clear hkz)
                        | (go_at_call_of 14 (Value.slice A4 R.length c4)
                           refine (chained_any _ _ _ S O R fs _ (HOPS.out.keep (HK4.out.trans HKZ.out)) (HR.out.keep (((HK1.out.trans HKP.out).trans HK4.out).trans HKZ.out)) (HFS.out.keep ((HKP.out.trans HK4.out).trans HKZ.out)) HOK9.out (by omega) (by omega) (by omega) (HEX.out.keep HKZ.out)).mono ?_
                           rintro e wz ⟨rfl, hkz⟩
                           rw [HC3.out]
                           have HKZ := Lib.hid (HKZ.out.trans hkz)
                           clear hkz)
                        | (go_at_call_of 14 (Value.string s)
                           refine (chained_any _ _ _ s O nw fs _ (HOPS.out.keep (HK4.out.trans HKZ.out)) (HNW.out.keep (HK4.out.trans HKZ.out)) (HFS.out.keep ((HKP.out.trans HK4.out).trans HKZ.out)) HOK9.out (by omega) (by omega) (by omega) (HEX.out.keep HKZ.out)).mono ?_
                           rintro e wz ⟨rfl, hkz⟩
                           rw [HC5.out]
                           have HKZ := Lib.hid (HKZ.out.trans hkz)
                           clear hkz)
                        | (go_at_call_of 6 (Value.slice A3 X.length c3)
                           refine (specPair_any _ _ o.key X _ (HKY.out.keep ((HKP.out.trans HK4.out).trans HKZ.out)) (HX.out.keep (((HK1.out.trans HKP.out).trans HK4.out).trans HKZ.out)) (by omega) (by omega)).mono ?_
                           rintro e wz ⟨r8, rfl, ho8, hkz⟩
                           have HB8 := Lib.hid (show Byts wz r8 (pairS o.key X) from ho8.slc_map u8v (fun _ _ => rfl))
                           obtain ⟨A8, c8, rfl, -, -, -, -⟩ := ho8.form
                           obtain ⟨n8, hn8⟩ : ∃ n8, n8 = ((pairS o.key X).map u8v).length := ⟨_, rfl⟩
                           rw [← hn8] at HB8 ⊢
                           have HKZ := Lib.hid (HKZ.out.trans hkz)
                           clear hkz
                           clear ho8 hn8)
                        | (go_at_call_of 15 (Value.slice A8 n8 c8)
                           refine (leafSum_big _ (pairS o.key X) _ HB8.out (by have := pairS_length o.key X (by omega); omega)).mono ?_
                           rintro e wz ⟨r9, rfl, hb9, hkz⟩
                           have HB9 := Lib.hid hb9
                           have HKZ9 := Lib.hid (Kp.refl (fun _ => False) wz)
                           obtain ⟨A9x, c9x, rfl, -, -, -, -⟩ := hb9
                           obtain ⟨n9x, hn9x⟩ : ∃ n9x, n9x = (leafS (pairS o.key X)).length := ⟨_, rfl⟩
                           rw [← hn9x] at HB9 ⊢
                           have HKZ := Lib.hid (HKZ.out.trans hkz)
                           clear hkz
                           clear hn9x)
                        | (go_at_call_of 6 u15
                           refine (specPair_any _ _ o.key fs _ (HKY.out.keep ((HKP.out.trans HK4.out).trans HKZ.out)) (HFS.out.keep ((HKP.out.trans HK4.out).trans HKZ.out)) (by omega) (by omega)).mono ?_
                           rintro e wz ⟨r10, rfl, ho10, hkz⟩
                           have HB10 := Lib.hid (show Byts wz r10 (pairS o.key fs) from ho10.slc_map u8v (fun _ _ => rfl))
                           obtain ⟨A10, c10, rfl, -, -, -, -⟩ := ho10.form
                           obtain ⟨n10, hn10⟩ : ∃ n10, n10 = ((pairS o.key fs).map u8v).length := ⟨_, rfl⟩
                           rw [← hn10] at HB10 ⊢
                           have HKZ9 := Lib.hid (HKZ9.out.trans hkz)
                           have HKZ := Lib.hid (HKZ.out.trans hkz)
                           clear hkz
                           clear ho10 hn10)
                        | (go_at_call_of 15 (Value.slice A10 n10 c10)
                           refine (leafSum_big _ (pairS o.key fs) _ HB10.out (by have := pairS_length o.key fs (by omega); omega)).mono ?_
                           rintro e wz ⟨r11, rfl, hb11, hkz⟩
                           have HB11 := Lib.hid hb11
                           have HKZ9 := Lib.hid (HKZ9.out.trans hkz)
                           have HKZ := Lib.hid (HKZ.out.trans hkz)
                           clear hkz)
                        | (go_at_call_of 13 (Value.slice A9x n9x c9x)
                           refine (same2_any _ _ (leafS (pairS o.key X)) (leafS (pairS o.key fs)) _ (HB9.out.keep HKZ9.out) HB11.out).mono ?_
                           rintro e wz ⟨rfl, rfl⟩
                           rw [← HB1.out])
                        | (go_at_call_of 13 (Value.slice A4 R.length c4)
                           refine (same2_any _ _ R nw _ (HR.out.keep (((HK1.out.trans HKP.out).trans HK4.out).trans HKZ.out)) (HNW.out.keep (HK4.out.trans HKZ.out))).mono ?_
                           rintro e wz ⟨rfl, rfl⟩
                           rw [← HB2.out]))
                      go_ret
                      exact ⟨by first | rfl | simp, ((HK1.out.trans HKP.out).trans HK4.out).trans HKZ.out⟩
                  | some ks =>
                    have HKS := Lib.hid hks
                    obtain ⟨b4, hb4⟩ : ∃ b4, b4 = (ks == KR) := ⟨_, rfl⟩
                    have hb44 : (b4 == b4) = true := by simp
                    have hc4 := HC4.out
                    rw [hks] at hc4
                    simp only [] at hc4
                    rw [← HKR.out, ← hb4] at hc4
                    have HC5 : Hid (chainB O nw s.data.toList fs = b4) := Lib.hid hc4
                    have HB4 := Lib.hid hb4
                    clear hks hc4 hb4
                    cases b2
                    all_goals
                      go_wp2_with (first
                        | (go_at_call 11
                           refine (specKeys_any s _ (by omega)).mono ?_
                           rintro e w6 ⟨he, hk6⟩
                           rw [HKS.out] at he
                           obtain ⟨v6, rfl, hm6⟩ := he
                           have HM6 := Lib.hid hm6
                           have HKM6 := Lib.hid (Kp.refl (fun _ => False) w6)
                           have HKZ : Hid (Keep w4 w6) := Lib.hid (HK5.out.trans hk6)
                           clear hk6)
                        | (go_at_call_of 14 (Value.slice A3 X.length c3)
                           refine (chained_any _ _ _ S O nw X _ (HOPS.out.keep (HK4.out.trans HKZ.out)) (HNW.out.keep (HK4.out.trans HKZ.out)) (HX.out.keep (((HK1.out.trans HKP.out).trans HK4.out).trans HKZ.out)) HOK9.out (by omega) (by omega) (by omega) (HEX.out.keep HKZ.out)).mono ?_
                           rintro e wz ⟨rfl, hkz⟩
                           rw [HC2.out]
                           have HKZ := Lib.hid (HKZ.out.trans hkz)
                           have HKM6 := Lib.hid (HKM6.out.trans hkz)
                           clear hkz)
                        | (go_at_call_of 14 (Value.slice A4 R.length c4)
                           refine (chained_any _ _ _ S O R fs _ (HOPS.out.keep (HK4.out.trans HKZ.out)) (HR.out.keep (((HK1.out.trans HKP.out).trans HK4.out).trans HKZ.out)) (HFS.out.keep ((HKP.out.trans HK4.out).trans HKZ.out)) HOK9.out (by omega) (by omega) (by omega) (HEX.out.keep HKZ.out)).mono ?_
                           rintro e wz ⟨rfl, hkz⟩
                           rw [HC3.out]
                           have HKZ := Lib.hid (HKZ.out.trans hkz)
                           have HKM6 := Lib.hid (HKM6.out.trans hkz)
                           clear hkz)
                        | (go_at_call_of 14 (Value.string s)
                           refine (chained_any _ _ _ s O nw fs _ (HOPS.out.keep (HK4.out.trans HKZ.out)) (HNW.out.keep (HK4.out.trans HKZ.out)) (HFS.out.keep ((HKP.out.trans HK4.out).trans HKZ.out)) HOK9.out (by omega) (by omega) (by omega) (HEX.out.keep HKZ.out)).mono ?_
                           rintro e wz ⟨rfl, hkz⟩
                           rw [HC5.out]
                           have HKZ := Lib.hid (HKZ.out.trans hkz)
                           have HKM6 := Lib.hid (HKM6.out.trans hkz)
                           clear hkz)
                        | (go_at_call_of 6 (Value.slice A3 X.length c3)
                           refine (specPair_any _ _ o.key X _ (HKY.out.keep ((HKP.out.trans HK4.out).trans HKZ.out)) (HX.out.keep (((HK1.out.trans HKP.out).trans HK4.out).trans HKZ.out)) (by omega) (by omega)).mono ?_
                           rintro e wz ⟨r8, rfl, ho8, hkz⟩
                           have HB8 := Lib.hid (show Byts wz r8 (pairS o.key X) from ho8.slc_map u8v (fun _ _ => rfl))
                           obtain ⟨A8, c8, rfl, -, -, -, -⟩ := ho8.form
                           obtain ⟨n8, hn8⟩ : ∃ n8, n8 = ((pairS o.key X).map u8v).length := ⟨_, rfl⟩
                           rw [← hn8] at HB8 ⊢
                           have HKZ := Lib.hid (HKZ.out.trans hkz)
                           have HKM6 := Lib.hid (HKM6.out.trans hkz)
                           clear hkz
                           clear ho8 hn8)
                        | (go_at_call_of 15 (Value.slice A8 n8 c8)
                           refine (leafSum_big _ (pairS o.key X) _ HB8.out (by have := pairS_length o.key X (by omega); omega)).mono ?_
                           rintro e wz ⟨r9, rfl, hb9, hkz⟩
                           have HB9 := Lib.hid hb9
                           have HKZ9 := Lib.hid (Kp.refl (fun _ => False) wz)
                           obtain ⟨A9x, c9x, rfl, -, -, -, -⟩ := hb9
                           obtain ⟨n9x, hn9x⟩ : ∃ n9x, n9x = (leafS (pairS o.key X)).length := ⟨_, rfl⟩
                           rw [← hn9x] at HB9 ⊢
                           have HKZ := Lib.hid (HKZ.out.trans hkz)
                           have HKM6 := Lib.hid (HKM6.out.trans hkz)
                           clear hkz
                           clear hn9x)
                        | (go_at_call_of 6 u15
                           refine (specPair_any _ _ o.key fs _ (HKY.out.keep ((HKP.out.trans HK4.out).trans HKZ.out)) (HFS.out.keep ((HKP.out.trans HK4.out).trans HKZ.out)) (by omega) (by omega)).mono ?_
                           rintro e wz ⟨r10, rfl, ho10, hkz⟩
                           have HB10 := Lib.hid (show Byts wz r10 (pairS o.key fs) from ho10.slc_map u8v (fun _ _ => rfl))
                           obtain ⟨A10, c10, rfl, -, -, -, -⟩ := ho10.form
                           obtain ⟨n10, hn10⟩ : ∃ n10, n10 = ((pairS o.key fs).map u8v).length := ⟨_, rfl⟩
                           rw [← hn10] at HB10 ⊢
                           have HKZ9 := Lib.hid (HKZ9.out.trans hkz)
                           have HKZ := Lib.hid (HKZ.out.trans hkz)
                           have HKM6 := Lib.hid (HKM6.out.trans hkz)
                           clear hkz
                           clear ho10 hn10)
                        | (go_at_call_of 15 (Value.slice A10 n10 c10)
                           refine (leafSum_big _ (pairS o.key fs) _ HB10.out (by have := pairS_length o.key fs (by omega); omega)).mono ?_
                           rintro e wz ⟨r11, rfl, hb11, hkz⟩
                           have HB11 := Lib.hid hb11
                           have HKZ9 := Lib.hid (HKZ9.out.trans hkz)
                           have HKZ := Lib.hid (HKZ.out.trans hkz)
                           have HKM6 := Lib.hid (HKM6.out.trans hkz)
                           clear hkz)
                        | (go_at_call_of 13 (Value.slice A9x n9x c9x)
                           refine (same2_any _ _ (leafS (pairS o.key X)) (leafS (pairS o.key fs)) _ (HB9.out.keep HKZ9.out) HB11.out).mono ?_
                           rintro e wz ⟨rfl, rfl⟩
                           rw [← HB1.out])
                        | (go_at_call_of 13 (Value.slice A4 R.length c4)
                           refine (same2_any _ _ R nw _ (HR.out.keep (((HK1.out.trans HKP.out).trans HK4.out).trans HKZ.out)) (HNW.out.keep (HK4.out.trans HKZ.out))).mono ?_
                           rintro e wz ⟨rfl, rfl⟩
                           rw [← HB2.out])
                        | (go_at_call 12
                           refine (equalFunc_any v6 _ ks KR _ (Mat.keep HM6.out HKM6.out) (Mat.keep HMU4.out HKZ.out)).mono ?_
                           rintro e wz ⟨rfl, rfl⟩
                           rw [← HB4.out]))
                      go_ret
                      exact ⟨by first | rfl | simp, ((HK1.out.trans HKP.out).trans HK4.out).trans HKZ.out⟩
end Go.Proofs.YtfodkjpjejoemaaGreatDoor
