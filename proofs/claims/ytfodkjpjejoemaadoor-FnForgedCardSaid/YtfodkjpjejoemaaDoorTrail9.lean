/-
  Proofs of a tree's leaves: the law FnProofs walked: it answers true.
  Conditions: the argument reads as a list of slices of bytes; SHA-256's table holds its numbers; the package's own error is an error.
-/
import Derived.Test.YtfodkjpjejoemaaDoorTrail8
import Derived.Test.YtfodkjpjejoemaaDoorMany
import Derived.Deep.RegionLaw
namespace Go.Proofs.YtfodkjpjejoemaaDoor
open Go Go.RowKit
attribute [local go_sem ↓] Go.wp_at_zero Go.wp_at_succ

theorem prfOf_valid (L : List (List UInt8)) (i : Nat) (hL : L.length ≤ 300) : valid (prfOf L i) = true := by
  have hc := auntsS_count 9 L i (by omega)
  have h32 := auntsS_32 L.length L i (Nat.le_refl _)
  have hl : (leafS (L.getD i [])).length = 32 := leafS_length _
  unfold valid prfOf
  simp only [hl]
  have h1 : decide ((0 : Int) ≤ ((L.length : Nat) : Int)) = true := decide_eq_true (by omega)
  have h2 : decide ((0 : Int) ≤ ((i : Nat) : Int)) = true := decide_eq_true (by omega)
  have h3 : decide ((auntsS L i).length ≤ 100) = true := decide_eq_true (by omega)
  have h4 : ((auntsS L i).all fun b => decide (b.length = 32)) = true := List.all_eq_true.2 fun b hb => decide_eq_true (h32 b hb)
  rw [h1, h2, h3, h4]
  rfl
theorem prfOf_climb (L : List (List UInt8)) (i : Nat) (hi : i < L.length) : climbP (prfOf L i) = some (rootS L) := by
  have hc := climb_aunts L.length L i (Nat.le_refl _) hi
  have hg : L.getD i [] = L[i] := by rw [List.getD_eq_getElem?_getD, List.getElem?_eq_getElem hi]; rfl
  unfold climbP prfOf
  simp only []
  rw [if_pos ⟨by omega, by omega⟩, hg]
  exact hc
theorem prfOf_verif (L : List (List UInt8)) (i : Nat) (hi : i < L.length) : verifB (prfOf L i) (rootS L) (L.getD i []) = true := by
  unfold verifB
  rw [prfOf_climb L i hi]
  have h1 : decide ((0 : Int) ≤ (prfOf L i).total) = true := decide_eq_true (by show (0 : Int) ≤ ((L.length : Nat) : Int); omega)
  have h2 : decide ((0 : Int) ≤ (prfOf L i).index) = true := decide_eq_true (by show (0 : Int) ≤ ((i : Nat) : Int); omega)
  have h3 : ((prfOf L i).leaf == leafS (L.getD i [])) = true := by show (leafS (L.getD i []) == leafS (L.getD i [])) = true; simp
  rw [h1, h2, h3]
  simp

set_option maxRecDepth 100000 in
set_option maxHeartbeats 4000000 in
theorem fnProofs_walk (v : Value) (L : List (List UInt8)) (w : World) (hv : Mat w v L) (hK : KTab w) (t0 : TypeId) (x0 : Value) (hg : w.cell? ⟨0, 0, none⟩ = some (.iface t0 x0)) :
    Calls Tryd.prog 10 #[v] w fun e w' => e = .returned (.bool true) ∧ Keep w w' := by
  have HV := Lib.hid hv
  have HK := Lib.hid hK
  have HG := Lib.hid hg
  clear hv hK hg
  cases hf : fits1 L with
  | false =>
    have HF := Lib.hid hf
    clear hf
    go_enter Tryd.func10, Tryd.ntmps10
    go_wp2_with (go_at_call 26; refine (zzFits1_any v L _ HV.out).mono ?_; rintro e w1 ⟨rfl, rfl⟩; rw [HF.out])
    go_ret
    exact ⟨rfl, Kp.refl _ _⟩
  | true =>
    have HF := Lib.hid hf
    clear hf
    have HML := Lib.hid (manyL_length L)
    have HMP := Lib.hid (manyL_part L)
    obtain ⟨M, hM⟩ : ∃ M, M = manyL L := ⟨_, rfl⟩
    rw [← hM] at HML HMP
    have HM := Lib.hid hM
    have HMP2 : Hid (∀ b ∈ M, b.length ≤ 1073741824) := Lib.hid fun b hb => Nat.le_trans (HMP.out b hb) (by omega)
    obtain ⟨m, hm⟩ : ∃ m, m = M.length := ⟨_, rfl⟩
    have HMN := Lib.hid hm
    have hm3 : m ≤ 300 := by rw [hm]; exact HML.out
    have hpl : (prfs M).length = m := by rw [prfs_length, hm]
    have HPL := Lib.hid hpl
    clear hM hm hpl
    go_enter Tryd.func10, Tryd.ntmps10
    go_wp2_with (first
      | (go_at_call 26; refine (zzFits1_any v L _ HV.out).mono ?_; rintro e w1 ⟨rfl, rfl⟩; rw [HF.out])
      | (go_at_call 27
         refine (many_any v L _ HV.out).mono ?_
         rintro e w1 ⟨v1, rfl, hm1, hk1⟩
         rw [← HM.out] at hm1
         have HM1 := Lib.hid hm1
         have HK1 := Lib.hid hk1
         obtain ⟨Am, cm, rfl, m1, m2, m3, m4⟩ := hm1
         rw [← HMN.out] at m1 HM1 ⊢
         unfold maxLen at m2
         have M4 := Lib.hid m4
         clear hk1 m3 m4)
      | (go_at_call 33
         refine (implProofs_any _ M _ HM1.out (HK.out.keep HK1.out (fun x => x)) (by rw [← HMN.out]; omega) HMP2.out).mono ?_
         rintro e w2 ⟨hvv, pv, rfl, hb2, hpl2, hk2⟩
         have HB2 := Lib.hid hb2
         have HK2 := Lib.hid (HK1.out.trans hk2)
         have HK12 := Lib.hid hk2
         obtain ⟨B, PS, hrow, hpsl, hps⟩ := hpl2
         have hpm : PS.length = m := by rw [hpsl, HPL.out]
         have HPM := Lib.hid hpm
         have HROW := Lib.hid hrow
         have HPS := Lib.hid hps
         obtain ⟨Ap, cp, rfl, hpz⟩ : ∃ A c, pv = .slice A m c ∧ m ≤ c := by
           rcases hrow.2 with ⟨rfl, h0⟩ | ⟨g, cap, cur, rfl, _, _, h3, _⟩
           · exact ⟨none, 0, by rw [← hpm, h0], by omega⟩
           · exact ⟨some ⟨g, 0, none⟩, cap, by rw [hpm], by omega⟩
         obtain ⟨Ah, ch, rfl, -, -, -, -⟩ := hb2
         clear hk2 hrow hpsl hps hpm)
      | (go_at_call 28
         refine (specRoot_n M.length M _ _ (Nat.le_refl _) (Mat.keep HM1.out HK12.out) (by have := HML.out; omega) HMP2.out).mono ?_
         rintro e w3 ⟨v3, rfl, hb3, hk3⟩
         have HB3 := Lib.hid hb3
         have HK3 := Lib.hid (HK2.out.trans hk3)
         have HK23 := Lib.hid hk3
         clear hb3 hk3)
      | (go_at_call 18
         refine (same2_any _ v3 (rootS M) (rootS M) _ (HB2.out.keep HK23.out) HB3.out).mono ?_
         rintro e w4 ⟨rfl, rfl⟩
         rw [show (rootS M == rootS M) = true by simp]))
    go_loopw [31] (fun iv wr => ∃ i : Nat, i ≤ m ∧ iv = .int .i64 i ∧ Keep w3 wr) (fun iv _ => m - (intOf iv).toNat)
    case atStart => exact ⟨0, Nat.zero_le _, rfl, Kp.refl _ _⟩
    case round =>
      obtain ⟨i, hi, rfl, hkp⟩ := hrel
      have HKP := Lib.hid hkp
      clear hkp
      by_cases hlt : i < m
      · have hiM : i < M.length := by rw [← HMN.out]; exact hlt
        have hiP : i < PS.length := by rw [HPM.out]; exact hlt
        obtain ⟨gp, cp2, hpe, y0, y1, y2, y3⟩ := HROW.out.at_ i hiP
        rw [HPM.out] at hpe
        simp only [Value.slice.injEq] at hpe
        obtain ⟨rfl, -, rfl⟩ := hpe
        obtain ⟨hp1, hp2⟩ := HPS.out i hiP (by rw [HPL.out]; exact hlt)
        rw [prfs_at] at hp1 hp2
        have HVA := Lib.hid (prfOf_valid M i HML.out)
        have HVE := Lib.hid (prfOf_verif M i hiM)
        obtain ⟨p, hp⟩ : ∃ p, p = prfOf M i := ⟨_, rfl⟩
        rw [← hp] at hp1 hp2 HVA HVE
        have HP := Lib.hid hp
        rw [hp1] at hp2 y0 y1
        obtain ⟨lv, hlv⟩ : ∃ lv, lv = PS[i].2.1 := ⟨_, rfl⟩
        obtain ⟨av, hav⟩ : ∃ av, av = PS[i].2.2 := ⟨_, rfl⟩
        rw [← hlv] at hp2 y2
        rw [← hav] at hp2 y3
        clear hlv hav hp1 hp
        have HPV := Lib.hid hp2
        have hka : Keep w2 wr := HK23.out.trans HKP.out
        have c0 := hka.cell_of y0 (fun x => x)
        have c1 := hka.cell_of y1 (fun x => x)
        have c2 := hka.cell_of y2 (fun x => x)
        have c3 := hka.cell_of y3 (fun x => x)
        obtain ⟨gm, om, rfl, hcm⟩ := M4.out (by omega)
        obtain ⟨u, hu, hur⟩ := hcm i hiM
        obtain ⟨x, hx⟩ : ∃ x, x = M[i] := ⟨_, rfl⟩
        rw [← hx] at hur
        have hxg : M.getD i [] = x := by rw [hx, List.getD_eq_getElem?_getD, List.getElem?_eq_getElem hiM]; rfl
        rw [hxg] at HVE
        have hxb : x.length ≤ 1073741824 := by rw [hx]; exact HMP2.out _ (List.getElem_mem hiM)
        have hk13 : Keep w1 wr := HK12.out.trans hka
        have HK1R := Lib.hid hk13
        have HUR := Lib.hid hur
        obtain ⟨Au, cu, rfl, -, -, -, -⟩ := hur
        have hu2 := hk13.cell_of hu (fun x => x)
        have hleaf : p.leaf.length ≤ 1073741824 := by rw [HP.out]; show (leafS (M.getD i [])).length ≤ _; rw [leafS_length]; omega
        have haunt : ∀ a ∈ p.aunts, a.length ≤ 1073741824 := fun a ha => by
          rw [HP.out] at ha
          have := auntsS_32 M.length M i (Nat.le_refl _) a ha
          omega
        have HLF := Lib.hid hleaf
        have HAU := Lib.hid haunt
        obtain ⟨_, _, hag, hlv2, hav2, -⟩ := id hp2
        simp only [Value.agg.injEq, Array.mk.injEq, List.cons.injEq] at hag
        obtain ⟨-, -, rfl, rfl, -⟩ := hag
        obtain ⟨Al, cl, rfl, -, -, -, -⟩ := hlv2
        obtain ⟨Aa, ca, rfl, -, -, -, -⟩ := hav2
        clear hcm hu hx hxg hp2 y0 y1 y2 y3 haunt hleaf hk13 hka
        go_wp2_with fail
        obtain ⟨b6, hb6⟩ : ∃ b6, b6 = wr.heap.size := ⟨_, rfl⟩
        obtain ⟨wb, hwb⟩ : ∃ wb, wb = wr.alloc (.cells #[.int .i64 p.total, .int .i64 p.index, .slice Al p.leaf.length cl, .slice Aa p.aunts.length ca] 25) := ⟨_, rfl⟩
        have hkb : Keep wr wb := by rw [hwb]; exact (Kp.refl _ _).alloc _
        have hrb : wb.heap[b6]? = some (.cells #[.int .i64 p.total, .int .i64 p.index, .slice Al p.leaf.length cl, .slice Aa p.aunts.length ca] 25 (0, 0)) := by rw [hwb, hb6]; exact heap_alloc_new _ _
        have g0 : wb.cell? ⟨b6, 0, none⟩ = some (.int .i64 p.total) := by rw [cell_of_row _ _ _ _ _ _ hrb]; rfl
        have g1 : wb.cell? ⟨b6, 1, none⟩ = some (.int .i64 p.index) := by rw [cell_of_row _ _ _ _ _ _ hrb]; rfl
        have g2 : wb.cell? ⟨b6, 2, none⟩ = some (.slice Al p.leaf.length cl) := by rw [cell_of_row _ _ _ _ _ _ hrb]; rfl
        have g3 : wb.cell? ⟨b6, 3, none⟩ = some (.slice Aa p.aunts.length ca) := by rw [cell_of_row _ _ _ _ _ _ hrb]; rfl
        have gu := hkb.cell_of hu2 (fun x => x)
        have HKB := Lib.hid hkb
        have HPB : Hid (PrfV wb (.agg #[.int .i64 p.total, .int .i64 p.index, .slice Al p.leaf.length cl, .slice Aa p.aunts.length ca]) p) := Lib.hid ((HPV.out.keep (HK23.out.trans HKP.out)).keep hkb)
        have HKW : Hid (Keep w wb) := Lib.hid ((HK3.out.trans HKP.out).trans hkb)
        have HK1B : Hid (Keep w1 wb) := Lib.hid (HK1R.out.trans hkb)
        have HK2B : Hid (Keep w2 wb) := Lib.hid ((HK23.out.trans HKP.out).trans hkb)
        rw [← hwb, ← hb6]
        have hz0 : Keep wb wb.drew := (Kp.refl _ _).drew
        clear hwb hb6 hkb hrb c0 c1 c2 c3 hu2
        go_region_law (first
          | (go_simp; go_at_call 15; first
             | (refine (lawsOurs_any _ p _ (HPB.out.keep hz40)).mono ?_
                rintro e w5 ⟨rfl, hk5⟩
                have hzz := hz40.trans hk5
                have HPA := Lib.hid (HPB.out.keep hzz)
                have HPQ := Lib.hid (HP40.out.keep hk5)
                have k0a := hzz.cell_of g0 (fun x => x)
                have k1a := hzz.cell_of g1 (fun x => x)
                have k2a := hzz.cell_of g2 (fun x => x)
                have k3a := hzz.cell_of g3 (fun x => x)
                have kua := hzz.cell_of gu (fun x => x))
             | (refine (lawsOurs_any _ p _ (HPB.out.keep hz0)).mono ?_
                rintro e w5 ⟨rfl, hk5⟩
                have hz37 := hz0.trans hk5
                have HPA := Lib.hid (HPB.out.keep hz37)
                have k0a := hz37.cell_of g0 (fun x => x)
                have k1a := hz37.cell_of g1 (fun x => x)
                have k2a := hz37.cell_of g2 (fun x => x)
                have k3a := hz37.cell_of g3 (fun x => x)
                have kua := hz37.cell_of gu (fun x => x)))
          | (go_simp; go_at_call 37; first
             | (refine (specProved_any _ M i _ (Mat.keep HM1.out (HK1B.out.trans hz37)) (by rw [← HMN.out]; exact hlt) (by rw [← HMN.out]; omega) HMP2.out).mono ?_
                rintro e w6 ⟨v40, rfl, hp40, hk6⟩
                rw [← HP.out] at hp40
                have hzz := hz37.trans hk6
                have HPA := Lib.hid (HPB.out.keep hzz)
                have HPQ := Lib.hid hp40
                have k0b := hzz.cell_of g0 (fun x => x)
                have k1b := hzz.cell_of g1 (fun x => x)
                have k2b := hzz.cell_of g2 (fun x => x)
                have k3b := hzz.cell_of g3 (fun x => x)
                have kub := hzz.cell_of gu (fun x => x)
                obtain ⟨lv4, av4, rfl, -⟩ := hp40)
             | (refine (specProved_any _ M i _ (Mat.keep HM1.out (HK1B.out.trans hz0)) (by rw [← HMN.out]; exact hlt) (by rw [← HMN.out]; omega) HMP2.out).mono ?_
                rintro e w6 ⟨v40, rfl, hp40, hk6⟩
                rw [← HP.out] at hp40
                have hz40 := hz0.trans hk6
                have HP40 := Lib.hid hp40
                have k0b := hz40.cell_of g0 (fun x => x)
                have k1b := hz40.cell_of g1 (fun x => x)
                have k2b := hz40.cell_of g2 (fun x => x)
                have k3b := hz40.cell_of g3 (fun x => x)
                have kub := hz40.cell_of gu (fun x => x)
                obtain ⟨lv4, av4, rfl, -⟩ := hp40))
          | (go_simp; go_at_call 22
             refine (alike_any _ _ p _ HPA.out HPQ.out).mono ?_
             rintro e w7 ⟨rfl, hk7⟩
             have hz7 := hzz.trans hk7
             have k0c := hz7.cell_of g0 (fun x => x)
             have k1c := hz7.cell_of g1 (fun x => x)
             have k2c := hz7.cell_of g2 (fun x => x)
             have k3c := hz7.cell_of g3 (fun x => x)
             have kuc := hz7.cell_of gu (fun x => x))
          | (go_simp; go_at_call 34
             refine (implVerified_any _ _ _ p (rootS M) x _ (HPB.out.keep hz7) (Byts.keep HB2.out (HK2B.out.trans hz7)) (by rw [rootS_length]; omega) (Byts.keep HUR.out (HK1B.out.trans hz7)) (HK.out.keep (HKW.out.trans hz7) (fun x => x)) HLF.out HAU.out (by omega)).mono ?_
             rintro e w8 ⟨rfl, hk8⟩
             rw [HVE.out]
             have hz8 := hz7.trans hk8
             have k0d := hz8.cell_of g0 (fun x => x)
             have k1d := hz8.cell_of g1 (fun x => x)
             have k2d := hz8.cell_of g2 (fun x => x)
             have k3d := hz8.cell_of g3 (fun x => x)
             have kud := hz8.cell_of gu (fun x => x))
          | (go_simp; go_at_call 13
             refine (implValid_any _ p _ (HPB.out.keep hz8) t0 x0 ((HKW.out.trans hz8).cell_of HG.out (fun x => x))).mono ?_
             rintro e w9 ⟨rfl, hk9⟩
             rw [HVA.out]
             have hz9 := hz8.trans hk9))
        all_goals
          go_wp2_with fail
          go_roundw
          case rel => exact ⟨i + 1, hlt, by go_num, (HKP.out.trans HKB.out).trans hz9⟩
          case measure => simp [intOf]; omega
      · have hin : i = m := by omega
        subst hin
        go_wp2_with fail
        go_ret
        exact ⟨rfl, HK3.out.trans HKP.out⟩
end Go.Proofs.YtfodkjpjejoemaaDoor
