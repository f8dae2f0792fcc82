/-
  No other leaf, no other place, no other size: the law FnForged walked: it answers true.
  Conditions: the arguments read as a list of slices of bytes, numbers and bytes; SHA-256's table holds its numbers.
-/
import Derived.Test.YtfodkjpjejoemaaDoorTrail9
import Derived.Test.YtfodkjpjejoemaaDoorMany
import Derived.Deep.RegionLaw
import Derived.Deep.DeepCutAuto
namespace Go.Proofs.YtfodkjpjejoemaaDoor
open Go Go.RowKit
attribute [local go_sem ↓] Go.wp_at_zero Go.wp_at_succ

theorem place_of (z : Int) (m : Nat) (hm : 0 < m) (hm2 : m ≤ 300) (h1 : -9223372036854775808 ≤ z) (h2 : z ≤ 9223372036854775807) :
    ∃ a : Nat, (max z (wrap64 (-wrap64 (z + 1)))).tmod (m : Int) = (a : Int) ∧ a < m := by
  obtain ⟨q, hq⟩ : ∃ q, q = max z (wrap64 (-wrap64 (z + 1))) := ⟨_, rfl⟩
  have hq0 : 0 ≤ q := by
    rw [hq]; unfold wrap64; omega
  rw [← hq, Int.tmod_eq_emod_of_nonneg hq0]
  have h3 := Int.emod_nonneg q (show (m : Int) ≠ 0 by omega)
  have h4 := Int.emod_lt_of_pos q (show (0 : Int) < m by omega)
  exact ⟨(q % m).toNat, by omega, by omega⟩
theorem prfOf_leaf (L : List (List UInt8)) (i : Nat) (hi : i < L.length) (leaf : List UInt8) : verifB (prfOf L i) (rootS L) leaf = (leafS leaf == (prfOf L i).leaf) := by
  unfold verifB
  rw [prfOf_climb L i hi]
  have h1 : decide ((0 : Int) ≤ (prfOf L i).total) = true := decide_eq_true (by show (0 : Int) ≤ ((L.length : Nat) : Int); omega)
  have h2 : decide ((0 : Int) ≤ (prfOf L i).index) = true := decide_eq_true (by show (0 : Int) ≤ ((i : Nat) : Int); omega)
  rw [h1, h2]
  simp [Bool.beq_comm]
/-- a climb that ends at the root -/
def okB : Option (List UInt8) → List UInt8 → Bool
  | some y, root => y == root
  | none, _ => false
theorem okB_none (root : List UInt8) : okB none root = false := rfl
theorem okB_some (y root : List UInt8) : okB (some y) root = (y == root) := rfl
/-- what verifying answers where the leaf is the proof's own -/
theorem verif_own (p : Prf) (root leaf : List UInt8) (h : p.leaf = leafS leaf) : verifB p root leaf = okB (climbP p) root := by
  unfold verifB
  cases hc : climbP p with
  | none => simp [okB]
  | some y =>
    rw [okB_some]
    have hg : 0 ≤ p.index ∧ p.index < p.total := by
      unfold climbP at hc
      split at hc
      · assumption
      · cases hc
    have h1 : decide ((0 : Int) ≤ p.total) = true := decide_eq_true (by omega)
    have h2 : decide ((0 : Int) ≤ p.index) = true := decide_eq_true hg.1
    rw [h1, h2, h]
    simp

theorem prf_leaf {w : World} {a b lv av : Value} {p : Prf} (h : PrfV w (.agg #[a, b, lv, av]) p) : Byts w lv p.leaf := by
  obtain ⟨_, _, he, hl, -⟩ := h
  simp only [Value.agg.injEq, Array.mk.injEq, List.cons.injEq] at he
  obtain ⟨-, -, rfl, -⟩ := he
  exact hl

set_option maxRecDepth 100000 in
set_option maxHeartbeats 8000000 in
theorem fnForged_walk (v lfv : Value) (L : List (List UInt8)) (leaf : List UInt8) (za zi zt : Int) (w : World) (hv : Mat w v L) (hlf : Byts w lfv leaf) (hK : KTab w)
    (za1 : -9223372036854775808 ≤ za) (za2 : za ≤ 9223372036854775807) (zi1 : -9223372036854775808 ≤ zi) (zi2 : zi ≤ 9223372036854775807) (zt1 : -9223372036854775808 ≤ zt) (zt2 : zt ≤ 9223372036854775807) :
    Calls Tryd.prog 9 #[v, .int .i64 za, .int .i64 zi, .int .i64 zt, lfv] w fun e w' => e = .returned (.bool true) ∧ Keep w w' := by
  have HV := Lib.hid hv
  have HLF := Lib.hid hlf
  have HK := Lib.hid hK
  obtain ⟨Alf, clf, rfl, l1, l2, l3, l4⟩ := hlf
  unfold maxLen at l2
  clear hv hK l3 l4
  cases hf : fits1 L with
  | false =>
    have HF := Lib.hid hf
    clear hf
    go_enter Tryd.func9, Tryd.ntmps9
    go_wp2_with (go_at_call 26; refine (zzFits1_any v L _ HV.out).mono ?_; rintro e w1 ⟨rfl, rfl⟩; rw [HF.out])
    go_ret
    exact ⟨rfl, Kp.refl _ _⟩
  | true =>
    have HF := Lib.hid hf
    clear hf
    by_cases hbig : 2147483647 < leaf.length
    · go_enter Tryd.func9, Tryd.ntmps9
      go_wp2_with (go_at_call 26; refine (zzFits1_any v L _ HV.out).mono ?_; rintro e w1 ⟨rfl, rfl⟩; rw [HF.out])
      go_ret
      exact ⟨rfl, Kp.refl _ _⟩
    · have HML := Lib.hid (manyL_length L)
      have HMP := Lib.hid (manyL_part L)
      obtain ⟨M, hM⟩ : ∃ M, M = manyL L := ⟨_, rfl⟩
      rw [← hM] at HML HMP
      have HM := Lib.hid hM
      have HMP2 : Hid (∀ b ∈ M, b.length ≤ 1073741824) := Lib.hid fun b hb => Nat.le_trans (HMP.out b hb) (by omega)
      obtain ⟨m, hm⟩ : ∃ m, m = M.length := ⟨_, rfl⟩
      have HMN := Lib.hid hm
      have hm3 : m ≤ 300 := by rw [hm]; exact HML.out
      have hpl : (prfs M).length = m := by rw [prfs_length, hm]
      have HPL := Lib.hid hpl
      clear hM hm hpl
      rcases Nat.eq_zero_or_pos m with rfl | hmp
      · go_enter Tryd.func9, Tryd.ntmps9
        go_wp2_with (first
          | (go_at_call 26; refine (zzFits1_any v L _ HV.out).mono ?_; rintro e w1 ⟨rfl, rfl⟩; rw [HF.out])
          | (go_at_call 27
             refine (many_any v L _ HV.out).mono ?_
             rintro e w1 ⟨v1, rfl, hm1, hk1⟩
             rw [← HM.out] at hm1
             have HK1 := Lib.hid hk1
             obtain ⟨Am, cm, rfl, m1, m2, m3, m4⟩ := hm1
             rw [← HMN.out] at m1 ⊢
             clear hk1 m3 m4))
        go_ret
        exact ⟨rfl, HK1.out⟩
      · obtain ⟨a, hat, ham⟩ := place_of za m hmp hm3 za1 za2
        have HAT := Lib.hid hat
        have haM : a < M.length := by rw [← HMN.out]; exact ham
        have HVE := Lib.hid (prfOf_verif M a haM)
        have HVL := Lib.hid (prfOf_leaf M a haM leaf)
        obtain ⟨p, hp⟩ : ∃ p, p = prfOf M a := ⟨_, rfl⟩
        rw [← hp] at HVE HVL
        have HP := Lib.hid hp
        clear hp hat
        go_enter Tryd.func9, Tryd.ntmps9
        go_upto_region 11 with (first
          | (go_at_call 26; refine (zzFits1_any v L _ HV.out).mono ?_; rintro e w1 ⟨rfl, rfl⟩; rw [HF.out])
          | (go_at_call 27
             refine (many_any v L _ HV.out).mono ?_
             rintro e w1 ⟨v1, rfl, hm1, hk1⟩
             rw [← HM.out] at hm1
             have HM1 := Lib.hid hm1
             have HK1 := Lib.hid hk1
             obtain ⟨Am, cm, rfl, m1, m2, m3, m4⟩ := hm1
             rw [← HMN.out] at m1 HM1 ⊢
             unfold maxLen at m2
             have M4 := Lib.hid m4
             clear hk1 m3 m4)
          | (go_at_call 33
             refine (implProofs_any _ M _ HM1.out (HK.out.keep HK1.out (fun x => x)) (by rw [← HMN.out]; omega) HMP2.out).mono ?_
             rintro e w2 ⟨hvv, pv, rfl, hb2, hpl2, hk2⟩
             rw [HAT.out]
             have HB2 := Lib.hid hb2
             have HK2 := Lib.hid (HK1.out.trans hk2)
             have HK12 := Lib.hid hk2
             obtain ⟨B, PS, hrow, hpsl, hps⟩ := hpl2
             have hpm : PS.length = m := by rw [hpsl, HPL.out]
             have HPM := Lib.hid hpm
             have hiP : a < PS.length := by rw [hpm]; exact ham
             obtain ⟨gp, cp2, hpe, y0, y1, y2, y3⟩ := hrow.at_ a hiP
             rw [hpm] at hpe
             subst hpe
             have hcp : m ≤ cp2 := by
               rcases hrow.2 with ⟨h0, h0'⟩ | ⟨g, cap, cur, he, _, _, h3, _⟩
               · omega
               · simp only [Value.slice.injEq] at he
                 obtain ⟨-, -, rfl⟩ := he
                 omega
             obtain ⟨hp1, hp2⟩ := hps a hiP (by rw [HPL.out]; exact ham)
             rw [prfs_at] at hp1 hp2
             rw [← HP.out] at hp1 hp2
             rw [hp1] at hp2 y0 y1
             obtain ⟨lv, hlv⟩ : ∃ lv, lv = PS[a].2.1 := ⟨_, rfl⟩
             obtain ⟨av, hav⟩ : ∃ av, av = PS[a].2.2 := ⟨_, rfl⟩
             rw [← hlv] at hp2 y2
             rw [← hav] at hp2 y3
             have HPV := Lib.hid hp2
             obtain ⟨Ah, ch, rfl, -, -, -, -⟩ := hb2
             obtain ⟨_, _, hag, hlv2, hav2, -⟩ := id hp2
             simp only [Value.agg.injEq, Array.mk.injEq, List.cons.injEq] at hag
             obtain ⟨-, -, rfl, rfl, -⟩ := hag
             obtain ⟨Al, cl, rfl, -, -, -, -⟩ := hlv2
             obtain ⟨Aa, ca, rfl, -, -, -, -⟩ := hav2
             clear hk2 hrow hpsl hps hpm hlv hav hp1 hp2))
        obtain ⟨gm, om, rfl, hcm⟩ := M4.out (by omega)
        obtain ⟨u, hu, hur⟩ := hcm a haM
        obtain ⟨x, hx⟩ : ∃ x, x = M[a] := ⟨_, rfl⟩
        rw [← hx] at hur
        have hxg : M.getD a [] = x := by rw [hx, List.getD_eq_getElem?_getD, List.getElem?_eq_getElem haM]; rfl
        rw [hxg] at HVE
        have hpx : p.leaf = leafS x := by rw [HP.out, ← hxg]; rfl
        have HPX := Lib.hid hpx
        have hxb : x.length ≤ 1073741824 := by rw [hx]; exact HMP2.out _ (List.getElem_mem haM)
        have HUR := Lib.hid hur
        obtain ⟨Au, cu, rfl, -, -, -, -⟩ := hur
        have hu2 := HK12.out.cell_of hu (fun x => x)
        have HCU := Lib.hid hu
        have hleaf : p.leaf.length ≤ 1073741824 := by rw [HP.out]; show (leafS (M.getD a [])).length ≤ _; rw [leafS_length]; omega
        have haunt : ∀ a ∈ p.aunts, a.length ≤ 1073741824 := fun a ha => by
          rw [HP.out] at ha
          have := auntsS_32 M.length M _ (Nat.le_refl _) a ha
          omega
        have HLE := Lib.hid hleaf
        have HAU := Lib.hid haunt
        clear hcm hu hx hxg haunt hleaf hpx
        obtain ⟨b6, hb6⟩ : ∃ b6, b6 = w2.heap.size := ⟨_, rfl⟩
        obtain ⟨wb, hwb⟩ : ∃ wb, wb = w2.alloc (.cells #[.int .i64 p.total, .int .i64 p.index, .slice Al p.leaf.length cl, .slice Aa p.aunts.length ca] 25) := ⟨_, rfl⟩
        have hkb : Keep w2 wb := by rw [hwb]; exact (Kp.refl _ _).alloc _
        have hrb : wb.heap[b6]? = some (.cells #[.int .i64 p.total, .int .i64 p.index, .slice Al p.leaf.length cl, .slice Aa p.aunts.length ca] 25 (0, 0)) := by rw [hwb, hb6]; exact heap_alloc_new _ _
        have g0 : wb.cell? ⟨b6, 0, none⟩ = some (.int .i64 p.total) := by rw [cell_of_row _ _ _ _ _ _ hrb]; rfl
        have g1 : wb.cell? ⟨b6, 1, none⟩ = some (.int .i64 p.index) := by rw [cell_of_row _ _ _ _ _ _ hrb]; rfl
        have g2 : wb.cell? ⟨b6, 2, none⟩ = some (.slice Al p.leaf.length cl) := by rw [cell_of_row _ _ _ _ _ _ hrb]; rfl
        have g3 : wb.cell? ⟨b6, 3, none⟩ = some (.slice Aa p.aunts.length ca) := by rw [cell_of_row _ _ _ _ _ _ hrb]; rfl
        have gu := hkb.cell_of hu2 (fun x => x)
        have HKB := Lib.hid hkb
        have HRB := Lib.hid hrb
        have HB6 := Lib.hid (show w2.heap.size ≤ b6 by omega)
        have HPB : Hid (PrfV wb (.agg #[.int .i64 p.total, .int .i64 p.index, .slice Al p.leaf.length cl, .slice Aa p.aunts.length ca]) p) := Lib.hid (HPV.out.keep hkb)
        have HKW : Hid (Keep w wb) := Lib.hid (HK2.out.trans hkb)
        have HK1B : Hid (Keep w1 wb) := Lib.hid (HK12.out.trans hkb)
        rw [← hwb, ← hb6]
        have hz0 : Keep wb wb.drew := (Kp.refl _ _).drew
        obtain ⟨bl, hbl⟩ : ∃ bl, bl = (leafS leaf == p.leaf) := ⟨_, rfl⟩
        rw [← hbl] at HVL
        have HBL := Lib.hid hbl
        clear hwb hb6 hkb hrb hu2 hbl y0 y1 y2 y3
        go_cut [70] (fun v w5 => v = .bool false ∧ Keep wb w5)
        case first =>
          go_region_law (first
            | (go_simp; go_at_call 34; first
               | (refine (implVerified_any _ _ _ p (rootS M) leaf _ (HPB.out.keep hz1) (Byts.keep HB2.out (HKB.out.trans hz1)) (by rw [rootS_length]; omega) (Byts.keep HLF.out (HKW.out.trans hz1)) (HK.out.keep (HKW.out.trans hz1) (fun x => x)) HLE.out HAU.out (by omega)).mono ?_
                  rintro e w4 ⟨rfl, hk4⟩
                  rw [HVL.out]
                  have hz2 := hz1.trans hk4
                  have k0b := hz2.cell_of g0 (fun x => x)
                  have k1b := hz2.cell_of g1 (fun x => x)
                  have k2b := hz2.cell_of g2 (fun x => x)
                  have k3b := hz2.cell_of g3 (fun x => x))
               | (refine (implVerified_any _ _ _ p (rootS M) x _ (HPB.out.keep hz0) (Byts.keep HB2.out (HKB.out.trans hz0)) (by rw [rootS_length]; omega) (Byts.keep HUR.out (HK1B.out.trans hz0)) (HK.out.keep (HKW.out.trans hz0) (fun x => x)) HLE.out HAU.out (by omega)).mono ?_
                  rintro e w3 ⟨rfl, hk3⟩
                  rw [HVE.out]
                  have hz1 := hz0.trans hk3
                  have k0a := hz1.cell_of g0 (fun x => x)
                  have k1a := hz1.cell_of g1 (fun x => x)
                  have k2a := hz1.cell_of g2 (fun x => x)
                  have k3a := hz1.cell_of g3 (fun x => x)))
            | (go_simp; go_at_call 35
               refine (leafSum_big _ leaf _ (Byts.keep HLF.out (HKW.out.trans hz2)) (by omega)).mono ?_
               rintro e w5 ⟨v5, rfl, hb5, hk5⟩
               have HB5 := Lib.hid hb5
               have hz3 := hz2.trans hk5
               have k0c := hz3.cell_of g0 (fun x => x)
               have k1c := hz3.cell_of g1 (fun x => x)
               have k2c := hz3.cell_of g2 (fun x => x)
               have k3c := hz3.cell_of g3 (fun x => x)
               clear hb5)
            | (go_simp; go_at_call 18
               refine (same2_any _ _ (leafS leaf) p.leaf _ HB5.out (prf_leaf (HPB.out.keep hz3))).mono ?_
               rintro e w6 ⟨rfl, rfl⟩
               rw [← HBL.out]))
          all_goals
            go_wp2_with fail
            go_meet
            exact ⟨rfl, hz3⟩
        case rest =>
          obtain ⟨rfl, hz3⟩ := hcut
          have hr5 : wc.heap[b6]? = some (.cells #[.int .i64 p.total, .int .i64 p.index, .slice Al p.leaf.length cl, .slice Aa p.aunts.length ca] 25 (0, 0)) := (hz3.block b6 (lt_of_block HRB.out) (fun x => x)).trans HRB.out
          have s0 := hz3.cell_of g0 (fun x => x)
          have s1 := hz3.cell_of g1 (fun x => x)
          have s2 := hz3.cell_of g2 (fun x => x)
          have s3 := hz3.cell_of g3 (fun x => x)
          have f0 : wc.frozen? ⟨b6, 0, none⟩ = false := frozen_of_row _ _ _ _ _ hr5
          have f1 : wc.frozen? ⟨b6, 1, none⟩ = false := frozen_of_row _ _ _ _ _ hr5
          have hb6l : b6 < wc.heap.size := lt_of_block hr5
          obtain ⟨wq, hwq⟩ : ∃ wq, wq = (wc.setCell ⟨b6, 1, none⟩ (.int .i64 zi)).setCell ⟨b6, 0, none⟩ (.int .i64 zt) := ⟨_, rfl⟩
          have hkq : Keep w2 wq := by
            rw [hwq]
            exact (HKB.out.trans hz3).trans' (((Kp.refl (fun j => j = b6) wc).setCell (p := ⟨b6, 1, none⟩) (fun _ => rfl) _).setCell (p := ⟨b6, 0, none⟩) (fun _ => rfl) _) (fun i hi e => by subst e; have := HB6.out; omega)
          have hrq : wq.heap[b6]? = some (.cells #[.int .i64 zt, .int .i64 zi, .slice Al p.leaf.length cl, .slice Aa p.aunts.length ca] 25 (0, 0)) := by
            rw [hwq, heap_setCell_same _ _ _ _ _ _ (heap_setCell_same _ _ _ _ _ _ hr5)]; rfl
          have HKQ := Lib.hid hkq
          have hpq : PrfV wq (.agg #[.int .i64 zt, .int .i64 zi, .slice Al p.leaf.length cl, .slice Aa p.aunts.length ca]) ⟨zt, zi, p.leaf, p.aunts⟩ := by
            obtain ⟨lv0, av0, he, h1, h2, -⟩ := HPV.out.keep hkq
            simp only [Value.agg.injEq, Array.mk.injEq, List.cons.injEq] at he
            obtain ⟨-, -, rfl, rfl, -⟩ := he
            exact ⟨_, _, rfl, h1, h2, zt1, zt2, zi1, zi2⟩
          have HPQ := Lib.hid hpq
          have HVQ := Lib.hid (verif_own ⟨zt, zi, p.leaf, p.aunts⟩ (rootS M) x HPX.out)
          obtain ⟨r, hr⟩ : ∃ r, r = climbP ⟨zt, zi, p.leaf, p.aunts⟩ := ⟨_, rfl⟩
          rw [← hr] at HVQ
          have HR := Lib.hid hr
          clear hr
          have q0 : wq.cell? ⟨b6, 0, none⟩ = some (.int .i64 zt) := by rw [cell_of_row _ _ _ _ _ _ hrq]; rfl
          have q1 : wq.cell? ⟨b6, 1, none⟩ = some (.int .i64 zi) := by rw [cell_of_row _ _ _ _ _ _ hrq]; rfl
          have q2 : wq.cell? ⟨b6, 2, none⟩ = some (.slice Al p.leaf.length cl) := by rw [cell_of_row _ _ _ _ _ _ hrq]; rfl
          have q3 : wq.cell? ⟨b6, 3, none⟩ = some (.slice Aa p.aunts.length ca) := by rw [cell_of_row _ _ _ _ _ _ hrq]; rfl
          have qu := hkq.cell_of (HK12.out.cell_of HCU.out (fun x => x)) (fun x => x)
          have hne : ∀ r : Bool, (decide (r ≠ r)) = false := fun r => by simp
          have HWQ := Lib.hid hwq
          clear hr5 hkq hrq hpq hwq g0 g1 g2 g3 gu hz0
          rcases (show (zi = (a : Int) ∧ zt = (m : Int)) ∨ (¬ zi = (a : Int)) ∨ (zi = (a : Int) ∧ ¬ zt = (m : Int)) by omega) with ⟨e1, e2⟩ | e1 | ⟨e1, e2⟩
          · subst e1
            subst e2
            go_wp2_with fail
            rw [← HWQ.out]
            go_ret
            exact ⟨rfl, HK2.out.trans HKQ.out⟩
          all_goals
            try subst e1
            go_wp2_with fail
            rw [← HWQ.out]
            rcases r with _ | y
            · go_wp2_with (first
                | (go_at_call 15
                   refine (lawsOurs_any _ _ _ HPQ.out).mono ?_
                   rintro e w7 ⟨rfl, hk7⟩
                   have HK7 := Lib.hid hk7
                   clear hk7)
                | (go_at_call 36
                   refine (specClimbed_any _ _ _ (HPQ.out.keep HK7.out) HLE.out HAU.out).mono ?_
                   rintro e w8 ⟨⟨v8, x8, rfl, hb8, hx8, hy8⟩, hk8⟩
                   rw [← HR.out, Option.isSome_none]
                   have hk78 := HK7.out.trans hk8
                   have HK78 := Lib.hid hk78
                   have r0 := hk78.cell_of q0 (fun x => x)
                   have r1 := hk78.cell_of q1 (fun x => x)
                   have r2 := hk78.cell_of q2 (fun x => x)
                   have r3 := hk78.cell_of q3 (fun x => x)
                   have ru := hk78.cell_of qu (fun x => x)
                   have hzq : Keep w8 w8.drew := (Kp.refl _ _).drew
                   clear hk78 hb8 hx8 hy8 hk8 q0 q1 q2 q3 qu))
              first
                | (go_region_law (first
                     | (go_simp; go_at_call 34
                        refine (implVerified_any _ _ _ _ (rootS M) x _ (HPQ.out.keep (HK78.out.trans hzq)) (Byts.keep HB2.out (HKQ.out.trans (HK78.out.trans hzq))) (by rw [rootS_length]; omega) (Byts.keep HUR.out ((HK12.out.trans HKQ.out).trans (HK78.out.trans hzq))) (HK.out.keep ((HK2.out.trans HKQ.out).trans (HK78.out.trans hzq)) (fun x => x)) HLE.out HAU.out (by omega)).mono ?_
                        rintro e w9 ⟨rfl, hk9⟩
                        rw [HVQ.out, okB_none]
                        have hz9 := hzq.trans hk9)))
                | fail
              all_goals
                go_wp2_with fail
                go_ret
                exact ⟨rfl, ((HK2.out.trans HKQ.out).trans HK78.out).trans hz9⟩
            · have hy9 : okB (some y) (rootS M) = (y == rootS M) := rfl
              obtain ⟨B0, hB0⟩ : ∃ B0, B0 = (y == rootS M) := ⟨_, rfl⟩
              rw [← hB0] at hy9
              rw [hy9] at HVQ
              have HBB := Lib.hid hB0
              clear hB0 hy9
              go_wp2_with (first
                | (go_at_call 15
                   refine (lawsOurs_any _ _ _ HPQ.out).mono ?_
                   rintro e w7 ⟨rfl, hk7⟩
                   have HK7 := Lib.hid hk7
                   clear hk7)
                | (go_at_call 36
                   refine (specClimbed_any _ _ _ (HPQ.out.keep HK7.out) HLE.out HAU.out).mono ?_
                   rintro e w8 ⟨⟨v8, x8, rfl, hb8, hx8, hy8⟩, hk8⟩
                   rw [← HR.out] at hy8
                   rw [← HR.out, Option.isSome_some]
                   have hxy := hy8 y rfl
                   rw [hxy] at hb8
                   have HB8 := Lib.hid hb8
                   have hk78 := HK7.out.trans hk8
                   have HK78 := Lib.hid hk78
                   have r0 := hk78.cell_of q0 (fun x => x)
                   have r1 := hk78.cell_of q1 (fun x => x)
                   have r2 := hk78.cell_of q2 (fun x => x)
                   have r3 := hk78.cell_of q3 (fun x => x)
                   have ru := hk78.cell_of qu (fun x => x)
                   have hzq : Keep w8 w8.drew := (Kp.refl _ _).drew
                   clear hk78 hb8 hx8 hy8 hxy hk8 q0 q1 q2 q3 qu))
              go_region_law (first
                | (go_simp; go_at_call 34
                   refine (implVerified_any _ _ _ _ (rootS M) x _ (HPQ.out.keep (HK78.out.trans hzq)) (Byts.keep HB2.out (HKQ.out.trans (HK78.out.trans hzq))) (by rw [rootS_length]; omega) (Byts.keep HUR.out ((HK12.out.trans HKQ.out).trans (HK78.out.trans hzq))) (HK.out.keep ((HK2.out.trans HKQ.out).trans (HK78.out.trans hzq)) (fun x => x)) HLE.out HAU.out (by omega)).mono ?_
                   rintro e w9 ⟨rfl, hk9⟩
                   rw [HVQ.out]
                   have hz9 := hzq.trans hk9)
                | (go_simp; go_at_call 18
                   refine (same2_any _ _ y (rootS M) _ (HB8.out.keep hz9) (Byts.keep HB2.out (HKQ.out.trans (HK78.out.trans hz9)))).mono ?_
                   rintro e w6 ⟨rfl, rfl⟩
                   rw [← HBB.out]))
              all_goals
                go_wp2_with fail
                go_ret
                exact ⟨rfl, ((HK2.out.trans HKQ.out).trans HK78.out).trans hz9⟩
end Go.Proofs.YtfodkjpjejoemaaDoor
