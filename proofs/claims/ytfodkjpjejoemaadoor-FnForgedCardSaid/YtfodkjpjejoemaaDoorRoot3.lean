/-
  Roots of trees: spec.Root walked.
  Conditions: the argument reads as a list of lists of bytes.
-/
import Derived.Test.YtfodkjpjejoemaaDoorRoot2
import Derived.Test.YtfodkjpjejoemaaDoorApps
import Derived.Deep.RegionHeld3
import Derived.Deep.DrawnRows
namespace Go.Proofs.YtfodkjpjejoemaaDoor
open Go Go.RowKit
attribute [local go_sem ↓] Go.wp_at_zero Go.wp_at_succ

set_option maxRecDepth 100000 in
set_option maxHeartbeats 2000000 in
theorem specRoot_n : ∀ (n : Nat) (L : List (List UInt8)) (v : Value) (w : World), L.length ≤ n → Mat w v L → L.length ≤ 1073741824 → (∀ b ∈ L, b.length ≤ 1073741824) →
    Calls Tryd.prog 28 #[v] w fun e w' => ∃ v', e = .returned v' ∧ Byts w' v' (rootS L) ∧ Keep w w' := by
  intro n
  induction n using Nat.strongRecOn with
  | _ n ih =>
  intro L v w hn hv hL hb
  have IH := Lib.hid ih
  have HV := Lib.hid hv
  have HBD := Lib.hid hb
  obtain ⟨A, c, rfl, h1, h2, h3, h4⟩ := hv
  unfold maxLen at h2
  clear ih h3 hb
  by_cases h0 : L.length = 0
  · have hL0 : L = [] := List.eq_nil_of_length_eq_zero h0
    subst hL0
    clear h4
    go_enter Tryd.func28, Tryd.ntmps28
    go_wp2_with (go_at_call 17
                 refine (sSum_any _ [] _ Slc.nil_ (by simp)).mono ?_
                 rintro e w1 ⟨v1, rfl, hb1, hk1⟩
                 have HB1 := Lib.hid hb1
                 have HK1 := Lib.hid hk1
                 clear hb1 hk1)
    go_ret
    exact ⟨v1, rfl, HB1.out, HK1.out⟩
  · by_cases h11 : L.length = 1
    · obtain ⟨b, hLb⟩ : ∃ b, L = [b] := List.length_eq_one_iff.1 h11
      subst hLb
      obtain ⟨g, off, rfl, hc⟩ := h4 (by simp)
      obtain ⟨u, hu, hur⟩ := hc 0 (by simp)
      rw [Nat.add_zero] at hu
      have HU := Lib.hid (show Byts w u b from hur)
      have hbb := HBD.out b (by simp)
      clear hc hur h4
      go_enter Tryd.func28, Tryd.ntmps28
      go_wp2_with (go_at_call 35
                   refine (leafSum_any _ b _ HU.out hbb).mono ?_
                   rintro e w1 ⟨v1, rfl, hb1, hk1⟩
                   have HB1 := Lib.hid hb1
                   have HK1 := Lib.hid hk1
                   clear hb1 hk1)
      go_ret
      exact ⟨v1, rfl, HB1.out, HK1.out⟩
    · have hm : 2 ≤ L.length := by omega
      have hs := splt_lt L.length hm
      have hroot := rootS_more L hm
      obtain ⟨K, hK⟩ : ∃ K, K = splt L.length := ⟨_, rfl⟩
      obtain ⟨N, hN⟩ : ∃ N, N = L.length := ⟨_, rfl⟩
      rw [← hK] at hs hroot
      obtain ⟨A1, c1, hs1, hm1⟩ := slc_to (P := Tryd.prog) Tryd.underlying23 szM HV.out K (by omega)
      obtain ⟨A2, c2, hs2, hm2⟩ := slc_from (P := Tryd.prog) Tryd.underlying23 szM HV.out K (by omega)
      have HM1 := Lib.hid hm1
      have HM2 := Lib.hid hm2
      have HR := Lib.hid hroot
      obtain ⟨M, hM⟩ : ∃ M, M = L.length - K := ⟨_, rfl⟩
      have hl1 : (L.take K).length = K := by rw [List.length_take]; omega
      have hl2 : (L.drop K).length = M := by rw [List.length_drop]; omega
      have HL1 := Lib.hid hl1
      have HL2 := Lib.hid hl2
      have HN := Lib.hid hN
      have HKS := Lib.hid hK
      rw [← hM] at hs2 HM2
      rw [← hN] at hs1 hs2 h1 hs hm hn h0 h11 hM hL ⊢
      have hK1 : (N : Int) ≠ 0 := by omega
      have hK2 : (N : Int) ≠ 1 := by omega
      have e0 : ((N : Int) == 0) = false := by rw [beq_eq_false_iff_ne]; omega
      have e1 : ((N : Int) == 1) = false := by rw [beq_eq_false_iff_ne]; omega
      have hs3 := hs.1
      have hs4 := hs.2
      have HT := Lib.hid (fun b (hb : b ∈ L.take K) => HBD.out b (List.mem_of_mem_take hb))
      have HD := Lib.hid (fun b (hb : b ∈ L.drop K) => HBD.out b (List.mem_of_mem_drop hb))
      have C1 : Hid (∀ wx, Keep w wx → Calls Tryd.prog 28 #[.slice A1 K c1] wx fun e w' => ∃ v', e = .returned v' ∧ Byts w' v' (rootS (L.take K)) ∧ Keep wx w') :=
        Lib.hid fun wx kx => IH.out K (by omega) (L.take K) _ wx (by rw [HL1.out]; exact Nat.le_refl _) (HM1.out _ (Mat.keep HV.out kx)) (by rw [HL1.out]; omega) HT.out
      have C2 : Hid (∀ wx, Keep w wx → Calls Tryd.prog 28 #[.slice A2 M c2] wx fun e w' => ∃ v', e = .returned v' ∧ Byts w' v' (rootS (L.drop K)) ∧ Keep wx w') :=
        Lib.hid fun wx kx => IH.out M (by omega) (L.drop K) _ wx (by rw [HL2.out]; exact Nat.le_refl _) (HM2.out _ (Mat.keep HV.out kx)) (by rw [HL2.out]; omega) HD.out
      clear IH HM1 HM2 HT HD HBD
      clear hl1 hl2 hN hK hm1 hm2 hroot h4 hs hM
      go_enter Tryd.func28, Tryd.ntmps28
      go_wp2_with (go_at_call 31
                   refine (specSplit_any N _ hm (by omega)).mono ?_
                   rintro e w' ⟨rfl, rfl⟩
                   rw [show splt N = K by rw [HKS.out, HN.out]])
      have hz0 : Keep w w.drew := (Kp.refl _ _).drew
      have HRL1 := Lib.hid (rootS_length (L.take K))
      have HRL2 := Lib.hid (rootS_length (L.drop K))
      have HZ0 := Lib.hid hz0
      clear hz0 hK1 hK2 e0 e1 h11 h0 hn
      go_region_with (first
        | (go_at_call_of 28 A1
           first
           | (have hz := HZ4.out
              refine (C1.out _ ?_).mono ?_
              exact hz
              rintro e w3 ⟨v3, rfl, hb3, hk3⟩
              have HZ5 := Lib.hid (hz.trans hk3)
              have HX := Lib.hid hb3
              have HY := Lib.hid (Byts.keep HB4.out hk3)
              clear hb3 hk3 hz)
           | (refine (C1.out _ ?_).mono ?_
              exact HZ0.out
              rintro e w3 ⟨v3, rfl, hb3, hk3⟩
              have HB3 := Lib.hid hb3
              have HZ3 := Lib.hid (HZ0.out.trans hk3)
              clear hb3 hk3))
        | (go_at_call_of 28 A2
           first
           | (have hz := HZ3.out
              refine (C2.out _ ?_).mono ?_
              exact hz
              rintro e w4 ⟨v4, rfl, hb4, hk4⟩
              have HZ5 := Lib.hid (hz.trans hk4)
              have HX := Lib.hid (Byts.keep HB3.out hk4)
              have HY := Lib.hid hb4
              clear hb4 hk4 hz)
           | (refine (C2.out _ ?_).mono ?_
              exact HZ0.out
              rintro e w4 ⟨v4, rfl, hb4, hk4⟩
              have HB4 := Lib.hid hb4
              have HZ4 := Lib.hid (HZ0.out.trans hk4)
              clear hb4 hk4))
        | (go_at_call 63
           refine (innerSum_any v3 v4 (rootS (L.take K)) (rootS (L.drop K)) _ HX.out HY.out (by rw [HRL1.out]; omega) (by rw [HRL2.out]; omega)).mono ?_
           rintro e w6 ⟨v6, rfl, hb6, hk6⟩
           have HB6 := Lib.hid hb6
           have HZ6 := Lib.hid (HZ5.out.trans hk6)
           clear hb6 hk6))
      all_goals
        go_wp2_with fail
        go_ret
        exact ⟨v6, rfl, by rw [HR.out]; exact HB6.out, HZ6.out⟩
end Go.Proofs.YtfodkjpjejoemaaDoor
