/-
  Paths as text: the law FnPath walked: it answers true.
  Conditions: the arguments read as a list of slices of bytes and a list of booleans; the table's cells hold its numbers, the library's error variable holds an error.
-/
import Derived.Test.YtfodkjpjejoemaaDoorPath4
import Derived.Test.YtfodkjpjejoemaaDoorMany
import Derived.Test.YtfodkjpjejoemaaDoorValid1
namespace Go.Proofs.YtfodkjpjejoemaaDoor
open Go Go.RowKit
attribute [local go_sem ↓] Go.wp_at_zero Go.wp_at_succ

theorem zip_path (KL : List (List UInt8)) (HL : List Bool) (hn : KL.length = HL.length) (h0 : 0 < KL.length) (h : ∀ j (h1 : j < KL.length) (h2 : j < HL.length), HL[j] = false → Lib.hasPrefix KL[j] [120, 58] = false) : keysOf (pathL (KL.zip HL)) = some KL := by
  rw [keysOf_path]
  · congr 1
    exact List.map_fst_zip (by omega)
  · intro e
    have : (KL.zip HL).length = 0 := by rw [e]; rfl
    rw [List.length_zip] at this; omega
  · intro p hp hp2
    obtain ⟨j, hj, rfl⟩ := List.mem_iff_getElem.1 hp
    rw [List.length_zip] at hj
    rw [List.getElem_zip] at hp2 ⊢
    exact h j (by omega) (by omega) hp2

set_option maxRecDepth 100000 in
set_option maxHeartbeats 4000000 in
theorem fnPath_walk (v hv : Value) (L : List (List UInt8)) (H : List Bool) (w : World) (h1 : Mat w v L) (h2 : Blns w hv H) (ht : UTab w) (t : TypeId) (x : Value) (hE : w.cell? ⟨2, 0, none⟩ = some (.iface t x)) :
    Calls Tryd.prog 8 #[v, hv] w fun e w' => e = .returned (.bool true) ∧ Keep w w' := by
  have HV := Lib.hid h1
  have HH := Lib.hid h2
  have HT := Lib.hid ht
  have HE := Lib.hid hE
  obtain ⟨B, d, rfl, b1, b2, b3, b4⟩ := h2
  unfold maxLen at b2
  clear h1 ht hE b3 b4
  cases hf : fits1 L with
  | false =>
    have HF := Lib.hid hf
    clear hf
    go_enter Tryd.func8, Tryd.ntmps8
    go_wp2_with (go_at_call 26; refine (zzFits1_any v L _ HV.out).mono ?_; rintro e w1 ⟨rfl, rfl⟩; rw [HF.out])
    go_ret
    exact ⟨rfl, Kp.refl _ _⟩
  | true =>
    have HF := Lib.hid hf
    clear hf
    by_cases hbig : 2147483647 < H.length
    · have hbi : (2147483647 : Int) < (H.length : Int) := by omega
      go_enter Tryd.func8, Tryd.ntmps8
      go_wp2_with (go_at_call 26; refine (zzFits1_any v L _ HV.out).mono ?_; rintro e w1 ⟨rfl, rfl⟩; rw [HF.out])
      go_ret
      exact ⟨rfl, Kp.refl _ _⟩
    · have hbi : ¬ (2147483647 : Int) < (H.length : Int) := by omega
      have HML := Lib.hid (manyL_length L)
      have HMP := Lib.hid (manyL_part L)
      obtain ⟨M, hM⟩ : ∃ M, M = manyL L := ⟨_, rfl⟩
      rw [← hM] at HML HMP
      have HM := Lib.hid hM
      obtain ⟨m, hm⟩ : ∃ m : Nat, m = min M.length H.length := ⟨_, rfl⟩
      have hmM : m ≤ M.length := by omega
      have hmH : m ≤ H.length := by omega
      have hmin : min (M.length : Int) (H.length : Int) = (m : Int) := by omega
      have hm300 : m ≤ 300 := by have := HML.out; omega
      obtain ⟨B2, d2, hsh, hmh⟩ := slc_to (P := Tryd.prog) Tryd.underlying50 szBo HH.out m hmH
      have HMH := Lib.hid hmh
      have hMl : M.length ≤ 300 := HML.out
      clear hM hm hmh
      go_enter Tryd.func8, Tryd.ntmps8
      go_wp2_with (first
        | (go_at_call 26; refine (zzFits1_any v L _ HV.out).mono ?_; rintro e w1 ⟨rfl, rfl⟩; rw [HF.out])
        | (go_at_call 27
           refine (many_any v L _ HV.out).mono ?_
           rintro e w1 ⟨v1, rfl, hm1, hk1⟩
           rw [← HM.out] at hm1
           have HM1 := Lib.hid hm1
           have HK1 := Lib.hid hk1
           obtain ⟨A, c, rfl, a1, a2, a3, a4⟩ := hm1
           unfold maxLen at a2
           obtain ⟨A1, c1, hs1, hm1⟩ := slc_to (P := Tryd.prog) Tryd.underlying23 szM HM1.out m hmM
           have HM2 := Lib.hid (hm1 _ HM1.out)
           clear a3 a4 hk1 hm1))
      · go_ret
        exact ⟨rfl, HK1.out⟩
      · have hm0 : 0 < m := by
          rcases Nat.eq_zero_or_pos m with h | h
          · exfalso; simp_all
          · exact h
        have hml : (M.take m).length = m := by rw [List.length_take]; omega
        have hhl : (H.take m).length = m := by rw [List.length_take]; omega
        have hkp : ∀ k ∈ M.take m, k.length ≤ 2000 := fun k hk => HMP.out k (List.mem_of_mem_take hk)
        obtain ⟨KL, hKL⟩ : ∃ KL, KL = M.take m := ⟨_, rfl⟩
        obtain ⟨HL, hHL⟩ : ∃ HL, HL = H.take m := ⟨_, rfl⟩
        have hHLj : ∀ j (h : j < HL.length) (h' : j < H.length), HL[j] = H[j] := fun j h h' => by subst hHL; simp
        rw [← hKL] at hml hkp HM2
        rw [← hHL] at hhl HMH
        have HKL := Lib.hid hml
        have HHL := Lib.hid hhl
        have HKP := Lib.hid hkp
        have HHJ := Lib.hid hHLj
        clear hml hhl hkp hKL hHL hHLj
        go_loopw [34] (fun iv wr => ∃ i : Nat, i ≤ m ∧ iv = .int .i64 i ∧ (∀ j (h1 : j < KL.length) (h2 : j < HL.length), j < i → HL[j] = false → Lib.hasPrefix KL[j] [120, 58] = false) ∧ w1 = wr) (fun iv _ => m - (intOf iv).toNat)
        case atStart => exact ⟨0, Nat.zero_le _, rfl, fun j _ _ h => absurd h (by omega), by first | rfl | trivial⟩
        case round =>
          obtain ⟨i, hi, rfl, hal, rfl⟩ := hrel
          have HAL := Lib.hid hal
          clear hal
          by_cases hlt : i < m
          · have hiK : i < KL.length := by rw [HKL.out]; exact hlt
            have hiH : i < H.length := by omega
            have hk4 := HM2.out.of_eq.2.2.2.2
            obtain ⟨g, off, rfl, hc⟩ := hk4 (by omega)
            obtain ⟨u, hu, hur⟩ := hc i hiK
            have hh4 := HH.out.of_eq.2.2.2.2
            obtain ⟨g2, off2, rfl, hc2⟩ := hh4 (by omega)
            obtain ⟨u2, hu2, hur2⟩ := hc2 i hiH
            have hur2' : u2 = .bool H[i] := hur2
            subst hur2'
            have hx2 := HK1.out.cell_of hu2 (fun x => x)
            obtain ⟨y, hy⟩ : ∃ y, y = KL[i] := ⟨_, rfl⟩
            rw [← hy] at hur
            have hbH := HHJ.out i (by rw [HHL.out]; exact hlt) hiH
            obtain ⟨hb, hhb⟩ : ∃ hb, hb = H[i] := ⟨_, rfl⟩
            rw [← hhb] at hx2 hbH
            have HY := Lib.hid hy
            have HBH := Lib.hid hbH
            have HUR := Lib.hid hur
            obtain ⟨A3, c3, rfl, q1, q2, q3, q4⟩ := hur
            unfold maxLen at q2
            have hbh1 : (i : Int) < (H.length : Int) := by omega
            clear hk4 hc hh4 hc2 hu2 hur2 hy hbH hhb q3 q4
            cases hb with
            | true =>
              go_wp2_with fail
              go_roundw
              case rel =>
                refine ⟨i + 1, hlt, by go_num, ?_, by first | rfl | trivial⟩
                intro j h1 h2 hj hf2
                by_cases hji : j < i
                · exact HAL.out j h1 h2 hji hf2
                · obtain rfl : j = i := by omega
                  rw [HBH.out] at hf2; cases hf2
              case measure => simp [intOf]; omega
            | false =>
              by_cases hy2 : y.length < 2
              · have hy2i : ¬ (2 : Int) ≤ (y.length : Int) := by omega
                have hpf : Lib.hasPrefix y [120, 58] = false := by
                  cases hq : Lib.hasPrefix y [120, 58] with
                  | false => rfl
                  | true => have := hasPrefix_len y hq; omega
                have HPF := Lib.hid hpf
                clear hpf
                go_wp2_with fail
                go_roundw
                case rel =>
                  refine ⟨i + 1, hlt, by go_num, ?_, by first | rfl | trivial⟩
                  intro j h1 h2 hj hf2
                  by_cases hji : j < i
                  · exact HAL.out j h1 h2 hji hf2
                  · obtain rfl : j = i := by omega
                    rw [← HY.out]; exact HPF.out
                case measure => simp [intOf]; omega
              · have hy2i : (2 : Int) ≤ (y.length : Int) := by omega
                obtain ⟨A4, c4, hs4, hm4⟩ := slc_to (P := Tryd.prog) Tryd.underlying22 szB HUR.out 2 (by omega)
                have h24 := hm4 _ HUR.out
                have hy2l : (y.take 2).length = 2 := by rw [List.length_take]; omega
                replace hs4 : ∀ w', (Instr.slice 22 (.slice A3 y.length c3) none (some (.int .i64 2)) none).run Tryd.prog w' = .ok (.slice A4 2 c4) w' := hs4
                obtain ⟨S2, hS2⟩ : ∃ S2 : ByteArray, S2 = ⟨(y.take 2).toArray⟩ := ⟨_, rfl⟩
                have hst : (convert 22 9 (.slice A4 2 c4)).run Tryd.prog w1 = .ok (.string S2) w1 := by
                  rw [byts_string (P := Tryd.prog) Tryd.underlying22 Tryd.underlying5 Tryd.underlying9 h24, hS2]
                have hpe := not_prefix y S2 (by omega) (by rw [hS2])
                cases hq : Lib.hasPrefix y [120, 58] with
                | true =>
                  rw [hq] at hpe
                  clear hm4 h24 hy2l hS2 hq hy2
                  go_wp2_with fail
                  go_ret
                  exact ⟨rfl, HK1.out⟩
                | false =>
                  rw [hq] at hpe
                  have HPF := Lib.hid hq
                  clear hm4 h24 hy2l hS2 hq hy2
                  go_wp2_with fail
                  go_roundw
                  case rel =>
                    refine ⟨i + 1, hlt, by go_num, ?_, by first | rfl | trivial⟩
                    intro j h1 h2 hj hf2
                    by_cases hji : j < i
                    · exact HAL.out j h1 h2 hji hf2
                    · obtain rfl : j = i := by omega
                      rw [← HY.out]; exact HPF.out
                  case measure => simp [intOf]; omega
          · obtain rfl : i = m := by omega
            have hko := zip_path KL HL (by rw [HKL.out, HHL.out]) (by rw [HKL.out]; exact hm0) (fun j h1 h2 hf2 => HAL.out j h1 h2 (by rw [← HKL.out]; exact h1) hf2)
            have HKO := Lib.hid hko
            have hpl := pathL_length (KL.zip HL) 2000 (fun p hp => HKP.out _ (List.of_mem_zip hp).1)
            rw [List.length_zip, HKL.out, HHL.out, Nat.min_self] at hpl
            obtain ⟨S, hS⟩ : ∃ S : ByteArray, S = ⟨(pathL (KL.zip HL)).toArray⟩ := ⟨_, rfl⟩
            have hSd : S.data.toList = pathL (KL.zip HL) := by rw [hS]
            have hSV : strV (pathL (KL.zip HL)) = .string S := by rw [hS]; rfl
            have hSz : S.size ≤ 100000000 := by
              rw [size_data, hSd]
              have : i * (3 * 2000 + 3) ≤ 300 * (3 * 2000 + 3) := Nat.mul_le_mul_right _ hm300
              omega
            have HSD := Lib.hid hSd
            have HSV := Lib.hid hSV
            have HPT := Lib.hid (pathText_any (.slice A1 i c1) (.slice B2 i d2) KL HL w1 HM2.out (HMH.out _ (Blns.keep HH.out HK1.out)) (by rw [HKL.out, HHL.out]) (by rw [HKL.out]; exact hm300) HKP.out (HT.out.keep HK1.out))
            clear hko hpl hS hSd hSV
            go_wp2_with (first
              | (go_at_call 32
                 refine HPT.out.mono ?_
                 rintro e w2 ⟨rfl, hk2⟩
                 rw [HSV.out]
                 have HK2 := Lib.hid (HK1.out.trans hk2)
                 have HM3 : Hid (Mat w2 (.slice A1 i c1) KL) := Lib.hid (Mat.keep HM2.out hk2)
                 clear hk2)
              | (go_at_call 24
                 refine (specKeys_any S _ (by omega)).mono ?_
                 rintro e w3 ⟨he, hk3⟩
                 rw [HSD.out, HKO.out] at he
                 obtain ⟨v3, rfl, hm3⟩ := he
                 have HV3 := Lib.hid hm3
                 have HK3 := Lib.hid (HK2.out.trans hk3)
                 have HM4 : Hid (Mat w3 (.slice A1 i c1) KL) := Lib.hid (Mat.keep HM3.out hk3)
                 clear hk3 hm3)
              | (go_at_call 23
                 refine (implKeys_any S _ (HT.out.keep HK3.out) t x (HK3.out.cell_of HE.out (fun x => x)) (by omega)).mono ?_
                 rintro e w4 ⟨he, hk4⟩
                 rw [HSD.out, HKO.out] at he
                 obtain ⟨v4, rfl, hm4⟩ := he
                 have HV4 := Lib.hid hm4
                 have HV34 := Lib.hid (Mat.keep HV3.out hk4)
                 have HK4 := Lib.hid (HK3.out.trans hk4)
                 have HM5 : Hid (Mat w4 (.slice A1 i c1) KL) := Lib.hid (Mat.keep HM4.out hk4)
                 clear hk4 hm4))
            refine (equalFunc_any v4 (.slice A1 i c1) KL KL _ HV4.out HM5.out).mono ?_
            rintro e w5 ⟨rfl, rfl⟩
            rw [show (KL == KL) = true by simp]
            go_wp2_with fail
            refine (equalFunc_any v3 (.slice A1 i c1) KL KL _ HV34.out HM5.out).mono ?_
            rintro e w6 ⟨rfl, rfl⟩
            rw [show (KL == KL) = true by simp]
            go_wp2_with fail
            go_ret
            exact ⟨rfl, HK4.out⟩
end Go.Proofs.YtfodkjpjejoemaaDoor
