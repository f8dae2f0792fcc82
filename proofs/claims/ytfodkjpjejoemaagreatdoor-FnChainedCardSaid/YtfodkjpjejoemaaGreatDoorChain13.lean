
/-
  Chains: operators verified along a path.
  Conditions: the operators' proofs lead to their roots; the tables hold what they hold.
-/
import Derived.Test.YtfodkjpjejoemaaGreatDoorChain12
namespace Go.Proofs.YtfodkjpjejoemaaGreatDoor
open Go Go.RowKit
attribute [local go_sem ↓] Go.wp_at_zero Go.wp_at_succ

theorem runC_step (O : List Opn) (ks : List (List UInt8)) (i m : Nat) (vv root : List UInt8) (hi : i < O.length) (hm : m < ks.length) :
    runC (O.drop i) (ks.take (m + 1)).reverse vv root = ((ks[m] == O[i].key) && ((leafS (pairS O[i].key vv) == O[i].prf.leaf) && runC (O.drop (i + 1)) (ks.take m).reverse O[i].root root)) := by
  rw [List.drop_eq_getElem_cons hi, List.take_succ_eq_append_getElem hm, List.reverse_append]
  rfl
theorem runC_none (O : List Opn) (ks : List (List UInt8)) (i : Nat) (vv root : List UInt8) (hi : i < O.length) : runC (O.drop i) (ks.take 0).reverse vv root = false := by
  rw [List.drop_eq_getElem_cons hi]
  rfl
theorem runC_end (O : List Opn) (ks : List (List UInt8)) (vv root : List UInt8) (m : Nat) (hm : m ≤ ks.length) : runC (O.drop O.length) (ks.take m).reverse vv root = ((root == vv) && decide (m = 0)) := by
  rw [List.drop_length]
  unfold runC
  congr 1
  cases m with
  | zero => simp
  | succ m => cases ks with
    | nil => simp at hm
    | cons a t => simp

set_option maxRecDepth 100000 in
set_option maxHeartbeats 8000000 in
theorem opsVerify_any (pv rv av : Value) (s : ByteArray) (O : List Opn) (root v : List UInt8) (w : World) (hp : OprsAt w pv O) (hr : Byts w rv root) (ha : Mat w av [v]) (hok : ∀ o ∈ O, OpnOk o) (hn : O.length ≤ 1000000) (hvl : v.length ≤ 4294960000)
    (hs : s.size ≤ 1099511626776) (ht : UTab w) (hK : KTab w) (t0 : TypeId) (x0 : Value) (hE : w.cell? ⟨4, 0, none⟩ = some (.iface t0 x0)) (t1 : TypeId) (x1 : Value) (hG : w.cell? ⟨0, 0, none⟩ = some (.iface t1 x1)) :
    Calls Tryz.prog 61 #[pv, rv, .string s, av] w fun e w' => (∃ ev, e = .returned ev ∧ ErrIs (!chainB O root s.data.toList v) ev) ∧ Keep w w' := by
  have HR := Lib.hid hr
  have HA := Lib.hid ha
  have HOK := Lib.hid hok
  have HK := Lib.hid hK
  have HG := Lib.hid hG
  have KP := Lib.hid (keyPath_any s w ht t0 x0 hE hs)
  obtain ⟨n, hnn⟩ : ∃ n, n = O.length := ⟨_, rfl⟩
  have HN := Lib.hid hnn
  obtain ⟨A, c, rfl, h1, h2, h4⟩ := hp
  rw [← hnn] at h1 hn
  have H4 := Lib.hid h4
  rw [← hnn]
  unfold maxLen at h2
  obtain ⟨Ar, cr, rfl, -, -, -, -⟩ := hr
  obtain ⟨Aa, ca, rfl, -, -, -, -⟩ := ha
  obtain ⟨nr, hnr⟩ : ∃ nr, nr = root.length := ⟨_, rfl⟩
  rw [← hnr] at HR ⊢
  rw [show ([v] : List (List UInt8)).length = 1 from rfl] at HA ⊢
  obtain ⟨Bc, hBc⟩ : ∃ B, B = chainB O root s.data.toList v := ⟨_, rfl⟩
  rw [← hBc]
  cases hks : keysOf s.data.toList with
  | none =>
    have hf : Bc = false := by rw [hBc]; unfold chainB; rw [hks]
    have HF := Lib.hid hf
    have HKS := Lib.hid hks
    clear hok hK hG ht hE hnn h4 hnr hBc hf hks
    go_enter Tryz.func61, Tryz.ntmps61
    go_wp2_with (go_at_call 73
                 refine KP.out.mono ?_
                 rintro e w1 ⟨he, hk1⟩
                 rw [HKS.out] at he
                 obtain ⟨t2, x2, rfl⟩ := he
                 have HK1 := Lib.hid hk1
                 clear hk1)
    go_ret
    exact ⟨⟨_, rfl, by rw [HF.out]; exact ErrIs.yes⟩, HK1.out⟩
  | some ks =>
    have hf : Bc = runC O ks.reverse v root := by rw [hBc]; unfold chainB; rw [hks]
    have HF := Lib.hid hf
    have HKS := Lib.hid hks
    clear hok hK hG ht hE hnn h4 hnr hBc hf hks
    go_enter Tryz.func61, Tryz.ntmps61
    go_wp2_with (go_at_call 73
                 refine KP.out.mono ?_
                 rintro e w1 ⟨he, hk1⟩
                 rw [HKS.out] at he
                 obtain ⟨kv1, rfl, hm1⟩ := he
                 have HK1 := Lib.hid hk1
                 have HM1 := Lib.hid hm1
                 obtain ⟨A9, c9, rfl, -, -, -, -⟩ := hm1
                 clear hk1)
    go_loopw [3, 8, 9, 10, 25] (fun av v8 kv v10 iv wr => ∃ (i m : Nat) (vv : List UInt8), i ≤ n ∧ m ≤ ks.length ∧ v8 = .nilIface ∧ v10 = .nilIface ∧ iv = .int .i64 i ∧ Mat wr av [vv] ∧ Mat wr kv (ks.take m) ∧ Bc = runC (O.drop i) (ks.take m).reverse vv root ∧ vv.length ≤ 4294960000 ∧ Keep w wr) (fun _ _ _ _ iv _ => n - (intOf iv).toNat)
    case atStart => exact ⟨0, ks.length, v, Nat.zero_le _, Nat.le_refl _, rfl, rfl, rfl, HA.out.keep HK1.out, by rw [List.take_length]; exact HM1.out, by rw [List.take_length]; exact HF.out, hvl, HK1.out⟩
    case round =>
      obtain ⟨i, m, vv, hi, hm, rfl, rfl, rfl, hav, hkv, hbc, hvv, hkp⟩ := hrel
      have HAV := Lib.hid hav
      have HKV := Lib.hid hkv
      have HBC := Lib.hid hbc
      have HKP := Lib.hid hkp
      obtain ⟨Aa2, ca2, hav2, a1, a2, -, a4⟩ := hav
      obtain ⟨Ak2, ck2, hkv2, b1, b2, -, b4⟩ := hkv
      rw [show ([vv] : List (List UInt8)).length = 1 from rfl] at hav2
      rw [List.length_take, Nat.min_eq_left hm] at hkv2 b1
      subst hav2
      subst hkv2
      unfold maxLen at b2 a2
      have B4 := Lib.hid b4
      have A4 := Lib.hid a4
      clear a1 a4 b4 hbc hkp
      by_cases hlt : i < n
      · have hiO : i < O.length := by rw [← HN.out]; exact hlt
        obtain ⟨b, rfl, hcs⟩ := H4.out (by rw [← HN.out]; omega)
        obtain ⟨kv', q, c0, hbk, hpq⟩ := hcs i hiO
        have g0 := HKP.out.cell_of c0 (fun x => x)
        obtain ⟨o, ho⟩ : ∃ o, o = O[i] := ⟨_, rfl⟩
        have HO := Lib.hid ho
        have HOO := Lib.hid (HOK.out o (by rw [ho]; exact List.getElem_mem hiO))
        rw [← ho] at hbk hpq
        have HBK := Lib.hid hbk
        have HPQ := Lib.hid hpq
        obtain ⟨Ak, ck, rfl, -, -, -, -⟩ := hbk
        obtain ⟨nk, hnk⟩ : ∃ nk, nk = o.key.length := ⟨_, rfl⟩
        have hk0 : 0 < nk := by rw [hnk]; exact HOO.out.k0
        have HNK := Lib.hid hnk
        rw [← hnk] at HBK g0
        have j1 := m_getKey
        have j2 := m_run
        have j3 := na_getKey
        have j4 := na_run
        have HIO := Lib.hid hiO
        clear hcs c0 hnk hpq
        rcases Nat.eq_zero_or_pos m with rfl | hmp
        · have hbf : Bc = false := by rw [HBC.out]; exact runC_none O ks i vv root HIO.out
          have HBF := Lib.hid hbf
          clear hbf
          go_wp2_with (first
            | (go_at_call 121
               refine (getKey_any _ o.key q _ (by have h9 := HBK.out.keep HKP.out; exact h9)).mono ?_
               rintro e w5 ⟨rfl, hk5⟩
               have HK5 := Lib.hid hk5
               clear hk5)
            | (go_at_call 57; refine (errNew2_any _ _).mono ?_; rintro e w9 ⟨⟨x, rfl⟩, hk9⟩))
          go_ret
          exact ⟨⟨_, rfl, by rw [HBF.out]; exact ErrIs.yes⟩, (HKP.out.trans HK5.out).trans hk9⟩
        · obtain ⟨m', hm'⟩ : ∃ m', m = m' + 1 := ⟨m - 1, by omega⟩
          have em : (m : Int) - 1 = (m' : Int) := by omega
          have hmk : m' < ks.length := by omega
          have hmm : m' < m := by omega
          have hstep := HBC.out
          rw [hm', runC_step O ks i m' vv root hiO hmk, ← HO.out] at hstep
          obtain ⟨kk, hkk⟩ : ∃ kk, kk = ks[m'] := ⟨_, rfl⟩
          rw [← hkk] at hstep
          obtain ⟨bk, ok2, rfl, hck⟩ := B4.out (by rw [List.length_take]; omega)
          obtain ⟨uk, huk, hurk⟩ := hck m' (by rw [List.length_take]; omega)
          rw [List.getElem_take, ← hkk] at hurk
          have HUK := Lib.hid hurk
          obtain ⟨Au, cu, rfl, -, -, -, -⟩ := hurk
          obtain ⟨nu, hnu⟩ : ∃ nu, nu = kk.length := ⟨_, rfl⟩
          rw [← hnu] at HUK huk
          obtain ⟨A', c', hsl, hsl2⟩ := slc_to (P := Tryz.prog) Tryz.underlying22 szM HKV.out m' (by rw [List.length_take]; omega)
          rw [List.take_take, Nat.min_eq_left (by omega)] at hsl2
          have HSL := Lib.hid hsl2
          have HST := Lib.hid hstep
          clear hkk hck hnu hstep hsl2 hm'
          cases hq1 : (kk == o.key) with
          | false =>
            have HQ1 := Lib.hid hq1
            have hbf : Bc = false := by rw [HST.out, hq1]; rfl
            have HBF := Lib.hid hbf
            clear hbf hq1
            go_wp2_with (first
              | (go_at_call 121
                 refine (getKey_any _ o.key q _ (by have h9 := HBK.out.keep HKP.out; exact h9)).mono ?_
                 rintro e w5 ⟨rfl, hk5⟩
                 have HK5 := Lib.hid (HKP.out.trans hk5)
                 have HK45 := Lib.hid hk5
                 have g9 := hk5.cell_of huk (fun x => x)
                 clear hk5)
              | (go_at_call 74
                 refine (bytesEqual_any _ _ kk o.key _ (HUK.out.keep HK45.out) (HBK.out.keep HK5.out)).mono ?_
                 rintro e w6 ⟨rfl, rfl⟩
                 rw [HQ1.out])
              | (go_at_call 57; refine (errNew2_any _ _).mono ?_; rintro e w9 ⟨⟨x, rfl⟩, hk9⟩))
            go_ret
            exact ⟨⟨_, rfl, by rw [HBF.out]; exact ErrIs.yes⟩, HK5.out.trans hk9⟩
          | true =>
            have HQ1 := Lib.hid hq1
            cases hq2 : (leafS (pairS o.key vv) == o.prf.leaf) with
            | false =>
              have HQ2 := Lib.hid hq2
              have hbf : Bc = false := by rw [HST.out, hq1, hq2]; rfl
              have HBF := Lib.hid hbf
              clear hbf hq1 hq2
              go_wp2_with (first
                | (go_at_call 121
                   refine (getKey_any _ o.key q _ (by have h9 := HBK.out.keep HKP.out; exact h9)).mono ?_
                   rintro e w5 ⟨rfl, hk5⟩
                   have HK5 := Lib.hid (HKP.out.trans hk5)
                   have HK45 := Lib.hid hk5
                   have g9 := hk5.cell_of huk (fun x => x)
                   clear hk5)
                | (go_at_call 74
                   refine (bytesEqual_any _ _ kk o.key _ (HUK.out.keep HK45.out) (HBK.out.keep HK5.out)).mono ?_
                   rintro e w6 ⟨rfl, rfl⟩
                   rw [HQ1.out])
                | (go_at_call 122
                   refine (run_any _ _ q o vv _ (HBK.out.keep HK5.out) (HPQ.out.keep HK5.out) (HAV.out.keep HK45.out) hvv HOO.out (HK.out.keep HK5.out (fun x => x))).mono ?_
                   rintro e w7 ⟨he7, hk7⟩
                   have hro : runO o vv = none := by unfold runO; rw [HQ2.out]; rfl
                   rw [hro] at he7
                   obtain ⟨t7, x7, rfl⟩ := he7
                   have HK7 := Lib.hid (HK5.out.trans hk7)
                   have HK57 := Lib.hid (HK45.out.trans hk7)
                   clear hk7 hro))
              go_ret
              exact ⟨⟨_, rfl, by rw [HBF.out]; exact ErrIs.yes⟩, HK7.out⟩
            | true =>
              have HQ2 := Lib.hid hq2
              have hbf : Bc = runC (O.drop (i + 1)) (ks.take m').reverse o.root root := by rw [HST.out, hq1, hq2]; rfl
              have HBF := Lib.hid hbf
              clear hbf hq1 hq2
              go_wp2_with (first
                | (go_at_call 121
                   refine (getKey_any _ o.key q _ (by have h9 := HBK.out.keep HKP.out; exact h9)).mono ?_
                   rintro e w5 ⟨rfl, hk5⟩
                   have HK5 := Lib.hid (HKP.out.trans hk5)
                   have HK45 := Lib.hid hk5
                   have g9 := hk5.cell_of huk (fun x => x)
                   clear hk5)
                | (go_at_call 74
                   refine (bytesEqual_any _ _ kk o.key _ (HUK.out.keep HK45.out) (HBK.out.keep HK5.out)).mono ?_
                   rintro e w6 ⟨rfl, rfl⟩
                   rw [HQ1.out])
                | (go_at_call 122
                   refine (run_any _ _ q o vv _ (HBK.out.keep HK5.out) (HPQ.out.keep HK5.out) (HAV.out.keep HK45.out) hvv HOO.out (HK.out.keep HK5.out (fun x => x))).mono ?_
                   rintro e w7 ⟨he7, hk7⟩
                   have hro : runO o vv = some o.root := by unfold runO; rw [HQ2.out]; rfl
                   rw [hro] at he7
                   obtain ⟨av7, rfl, hm7⟩ := he7
                   have HM7 := Lib.hid hm7
                   have HK7 := Lib.hid (HK5.out.trans hk7)
                   have HK57 := Lib.hid (HK45.out.trans hk7)
                   clear hk7 hro hm7))
              go_roundw
              case rel => exact ⟨i + 1, m', o.root, hlt, by omega, rfl, rfl, by go_num, HM7.out, HSL.out _ (HKV.out.keep HK57.out), HBF.out, by have := HOO.out.rl; omega, HK7.out⟩
              case measure => simp [intOf]; omega
      · have hin : i = n := by omega
        subst hin
        have hlast : Bc = ((root == vv) && decide (m = 0)) := by
          have h9 := HBC.out
          rw [HN.out] at h9
          rw [h9]; exact runC_end O ks vv root m hm
        have HL := Lib.hid hlast
        obtain ⟨ba, oa, rfl, hca⟩ := A4.out (by simp)
        obtain ⟨ua, hua, hura⟩ := hca 0 (by simp)
        replace hura : Byts wr ua vv := hura
        rw [Nat.add_zero] at hua
        have HUA := Lib.hid hura
        obtain ⟨Au, cu, rfl, -, -, -, -⟩ := hura
        obtain ⟨nu, hnu⟩ : ∃ nu, nu = vv.length := ⟨_, rfl⟩
        rw [← hnu] at HUA hua
        have hgg := HKP.out.cell_of HG.out (fun x => x)
        clear hca hnu hlast
        cases hq : (root == vv) with
        | false =>
          have HQ := Lib.hid hq
          have hbf : Bc = false := by rw [HL.out, hq]; rfl
          have HBF := Lib.hid hbf
          clear hbf hq
          go_wp2_with (first
            | (go_at_call 74
               refine (bytesEqual_any _ _ root vv _ (HR.out.keep HKP.out) HUA.out).mono ?_
               rintro e w6 ⟨rfl, rfl⟩
               rw [HQ.out])
            | (go_at_call 57; refine (errNew2_any _ _).mono ?_; rintro e w9 ⟨⟨x, rfl⟩, hk9⟩))
          go_ret
          exact ⟨⟨_, rfl, by rw [HBF.out]; exact ErrIs.yes⟩, HKP.out.trans hk9⟩
        | true =>
          have HQ := Lib.hid hq
          rcases Nat.eq_zero_or_pos m with rfl | hmp
          · have hbf : Bc = true := by rw [HL.out, hq]; rfl
            have HBF := Lib.hid hbf
            clear hbf hq
            go_wp2_with (go_at_call 74
                         refine (bytesEqual_any _ _ root vv _ (HR.out.keep HKP.out) HUA.out).mono ?_
                         rintro e w6 ⟨rfl, rfl⟩
                         rw [HQ.out])
            go_ret
            exact ⟨⟨_, rfl, by rw [HBF.out]; exact ErrIs.no⟩, HKP.out⟩
          · have hbf : Bc = false := by rw [HL.out, hq, decide_eq_false (by omega)]; rfl
            have HBF := Lib.hid hbf
            clear hbf hq
            go_wp2_with (go_at_call 74
                         refine (bytesEqual_any _ _ root vv _ (HR.out.keep HKP.out) HUA.out).mono ?_
                         rintro e w6 ⟨rfl, rfl⟩
                         rw [HQ.out])
            go_ret
            exact ⟨⟨_, rfl, by rw [HBF.out]; exact ErrIs.yes⟩, HKP.out⟩
end Go.Proofs.YtfodkjpjejoemaaGreatDoor
