/-
  Roots of trees: the package's inner node, its root by recursion.
  Conditions: the arguments read as bytes; SHA-256's table holds its numbers.
-/
import Derived.Test.YtfodkjpjejoemaaDoorRoot5
namespace Go.Proofs.YtfodkjpjejoemaaDoor
open Go Go.RowKit
attribute [local go_sem ↓] Go.wp_at_zero Go.wp_at_succ

set_option maxRecDepth 100000 in
set_option maxHeartbeats 1000000 in
theorem innerHashOpt_any (b : Nat) (v1 v2 : Value) (p q : List UInt8) (w : World) (hd : ∃ bs, Dg w b bs) (hv1 : Bys w b v1 p) (hv2 : Bys w b v2 q) (hK : KTab w) (hp : p.length ≤ 1073741824) (hq : q.length ≤ 1073741824) :
    Calls Tryd.prog 123 #[hshV b, v1, v2] w fun e w' => ∃ v', e = .returned v' ∧ Own w' w.heap.size 5 v' ((innerS p q).map u8v) ∧ (∃ bs, Dg w' b bs) ∧ Kp (fun i => i = b) w w' := by
  have HD := Lib.hid hd
  have HV1 := Lib.hid hv1
  have HV2 := Lib.hid hv2
  have HK := Lib.hid hK
  have q1 := m_reset
  have q2 := m_write
  have q3 := m_sum
  have q4 := m_nil
  unfold hshV
  clear hd hv1 hv2 hK
  go_enter Tryd.func123, Tryd.ntmps123
  go_wp2_with (first
    | (go_at_call 136
       refine (reset_dg b _ HD.out).mono ?_
       rintro e w1 ⟨rfl, hd1, hk1⟩
       have HD1 := Lib.hid hd1
       have HK1 := Lib.hid hk1
       clear hd1 hk1))
  have hkb : 4 ≠ b := by obtain ⟨bs, h⟩ := HD.out; exact h.ktab HK.out
  have HKB := Lib.hid hkb
  have hb1 : b < w1.heap.size := HD1.out.lt
  have HE1 : Hid (KTab w1) := Lib.hid (HK.out.later hkb HK1.out)
  clear hkb
  go_region_with (first
    | (go_at_call 146
       refine (innerPre_any _).mono ?_
       rintro e w2 ⟨v2x, rfl, ho2, hk2⟩
       have HW2 : Hid (Bys w2 b v2x [1]) := Lib.hid (ho2.bys hb1)
       have HK2 : Hid (Keep w1 w2) := Lib.hid (((Kp.refl _ w1).drew).trans hk2)
       clear ho2 hk2)
    | (go_at_call 113
       refine (write_any [] [1] b v2x _ (HD1.out.kp HK2.out (fun x => x)) HW2.out (HE1.out.keep HK2.out (fun x => x)) (by simp)).mono ?_
       rintro e w3 ⟨rfl, hd3, hk3⟩
       have HD3 : Hid (Dg w3 b [1]) := Lib.hid hd3
       have HK3 : Hid (Kp (fun i => i = b) w w3) := Lib.hid ((HK1.out.trans HK2.out.keep).trans hk3)
       have HE3 : Hid (KTab w3) := Lib.hid (HK.out.later HKB.out HK3.out)
       clear hd3 hk3))
  all_goals
    go_wp2_with fail
    refine (write_any [1] p b v1 _ HD3.out (HV1.out.later HK3.out) HE3.out (by simp; omega)).mono ?_
    rintro e w4 ⟨rfl, hd4, hk4⟩
    have HD4 : Hid (Dg w4 b (1 :: p)) := Lib.hid hd4
    have HK4 : Hid (Kp (fun i => i = b) w w4) := Lib.hid (HK3.out.trans hk4)
    have HE4 : Hid (KTab w4) := Lib.hid (HK.out.later HKB.out HK4.out)
    clear hd4 hk4
    go_wp2_with fail
    refine (write_any (1 :: p) q b v2 _ HD4.out (HV2.out.later HK4.out) HE4.out (by simp; omega)).mono ?_
    rintro e w5 ⟨rfl, hd5, hk5⟩
    have HD5 : Hid (Dg w5 b (1 :: (p ++ q))) := Lib.hid hd5
    have HK5 : Hid (Kp (fun i => i = b) w w5) := Lib.hid (HK4.out.trans hk5)
    have HE5 : Hid (KTab w5) := Lib.hid (HK.out.later HKB.out HK5.out)
    clear hd5 hk5
    go_wp2_with (go_at_call 114
                 refine (dSum_any (1 :: (p ++ q)) b _ HD5.out HE5.out (by simp; omega)).mono ?_
                 rintro e w6 ⟨v6, rfl, ho6, hk6⟩
                 have HO6 := Lib.hid ho6
                 have HK6 := Lib.hid hk6
                 clear ho6 hk6)
    go_ret
    exact ⟨v6, rfl, HO6.out.down HK5.out.size, ⟨_, HD5.out.kp HK6.out (fun x => x)⟩, HK5.out.trans HK6.out.keep⟩

theorem Slc.mono {α : Type} {R R' : World → Value → α → Prop} {w : World} {v : Value} {L : List α} (h : Slc R w v L) (hR : ∀ u x, R w u x → R' w u x) : Slc R' w v L := by
  obtain ⟨A, c, hv, h1, h2, h3, h4⟩ := h
  refine ⟨A, c, hv, h1, h2, h3, fun hn => ?_⟩
  obtain ⟨b, off, hA, hc⟩ := h4 hn
  refine ⟨b, off, hA, fun i hi => ?_⟩
  obtain ⟨u, hu, hr⟩ := hc i hi
  exact ⟨u, hu, hR u _ hr⟩
/-- a list of slices of bytes of which nothing lies in block b -/
def MatB (w : World) (b : Nat) (v : Value) (L : List (List UInt8)) : Prop := ∀ wx, Kp (fun i => i = b) w wx → Slc (fun wy u x => Bys wy b u x) wx v L
theorem MatB.later {w w' : World} {b : Nat} {v : Value} {L : List (List UInt8)} (h : MatB w b v L) (k : Kp (fun i => i = b) w w') : MatB w' b v L := fun wx kx => h wx (k.trans kx)
theorem MatB.at_ {w : World} {b : Nat} {v : Value} {L : List (List UInt8)} (h : MatB w b v L) : Slc (fun wy u x => Bys wy b u x) w v L := h w (Kp.refl _ _)
theorem MatB.of {w w' : World} {b : Nat} {v : Value} {L : List (List UInt8)} (h : Mat w v L) (k : Keep w w') (hb : w.heap.size ≤ b) : MatB w' b v L := fun wx kx => by
  have k1 : Keep w wx := k.trans' kx fun i hi e => by subst e; omega
  have h1 : Slc (fun _ u x => Byts w u x) w v L := h.mono fun _ _ h => h
  have h2 : Slc (fun _ u x => Byts w u x) wx v L := h1.keep k1 fun _ _ h => h
  exact h2.mono fun u x hu wy ky => Byts.keep hu (k1.trans' ky fun i hi e => by subst e; omega)

set_option maxRecDepth 100000 in
set_option maxHeartbeats 2000000 in
theorem hash_n (b : Nat) : ∀ (n : Nat) (L : List (List UInt8)) (v : Value) (w : World), L.length ≤ n → MatB w b v L → (∃ bs, Dg w b bs) → KTab w → L.length ≤ 1073741824 → (∀ x ∈ L, x.length ≤ 1073741824) →
    Calls Tryd.prog 124 #[hshV b, v] w fun e w' => ∃ v', e = .returned v' ∧ Nw w.heap.size w' v' (rootS L) ∧ (∃ bs, Dg w' b bs) ∧ Kp (fun i => i = b) w w' := by
  intro n
  induction n using Nat.strongRecOn with
  | _ n ih =>
  intro L v w hn hv hd hK hL hb
  have IH := Lib.hid ih
  have HV := Lib.hid hv
  have HD := Lib.hid hd
  have HK := Lib.hid hK
  have HBD := Lib.hid hb
  have hkb : 4 ≠ b := by obtain ⟨bs, h⟩ := hd; exact h.ktab hK
  have HKB := Lib.hid hkb
  obtain ⟨A, c, rfl, h1, h2, h3, h4⟩ := hv.at_
  unfold maxLen at h2
  obtain ⟨HS, hHS⟩ : ∃ HS, HS = hshV b := ⟨_, rfl⟩
  rw [← hHS] at IH ⊢
  have HHS := Lib.hid hHS
  clear ih h3 hb hv hd hK hkb hHS
  by_cases h0 : L.length = 0
  · have hL0 : L = [] := List.eq_nil_of_length_eq_zero h0
    subst hL0
    clear h4 IH
    go_enter Tryd.func124, Tryd.ntmps124
    go_wp2_with (go_at_call 122
                 refine (emptyHash_any _ HK.out).mono ?_
                 rintro e w1 ⟨v1, rfl, hb1, hk1⟩
                 have HB1 := Lib.hid hb1
                 have HK1 := Lib.hid hk1
                 clear hb1 hk1)
    go_ret
    exact ⟨v1, rfl, HB1.out, by obtain ⟨bs, h⟩ := HD.out; exact ⟨bs, h.kp HK1.out (fun x => x)⟩, HK1.out.keep⟩
  · by_cases h11 : L.length = 1
    · obtain ⟨x, hLb⟩ : ∃ x, L = [x] := List.length_eq_one_iff.1 h11
      subst hLb
      obtain ⟨g, off, rfl, hc⟩ := h4 (by simp)
      obtain ⟨u, hu, hur⟩ := hc 0 (by simp)
      rw [Nat.add_zero] at hu
      have HU := Lib.hid (show Bys w b u x from hur)
      have hbb := HBD.out x (by simp)
      clear hc hur h4 IH
      go_enter Tryd.func124, Tryd.ntmps124
      go_wp2_with (go_at_call 130
                   rw [HHS.out]
                   refine (leafHashOpt_any b _ x _ HD.out HU.out HK.out hbb).mono ?_
                   rintro e w1 ⟨v1, rfl, hb1, hd1, hk1⟩
                   have HB1 := Lib.hid hb1
                   have HD1 := Lib.hid hd1
                   have HK1 := Lib.hid hk1
                   clear hb1 hd1 hk1)
      go_ret
      exact ⟨v1, rfl, Nw.of_own HB1.out (by show 0 < (rootS [x]).length; rw [rootS_length]; omega), HD1.out, HK1.out⟩
    · have hm : 2 ≤ L.length := by omega
      have hs := splt_lt L.length hm
      have hroot := rootS_more L hm
      obtain ⟨K, hK⟩ : ∃ K, K = splt L.length := ⟨_, rfl⟩
      obtain ⟨N, hN⟩ : ∃ N, N = L.length := ⟨_, rfl⟩
      rw [← hK] at hs hroot
      obtain ⟨A1, c1, hs1, hm1⟩ := slc_to (P := Tryd.prog) Tryd.underlying23 szM HV.out.at_ K (by omega)
      obtain ⟨A2, c2, hs2, hm2⟩ := slc_from (P := Tryd.prog) Tryd.underlying23 szM HV.out.at_ K (by omega)
      have HM1 := Lib.hid hm1
      have HM2 := Lib.hid hm2
      have HR := Lib.hid hroot
      obtain ⟨M, hM⟩ : ∃ M, M = L.length - K := ⟨_, rfl⟩
      have hl1 : (L.take K).length = K := by rw [List.length_take]; omega
      have hl2 : (L.drop K).length = M := by rw [List.length_drop]; omega
      have HL1 := Lib.hid hl1
      have HL2 := Lib.hid hl2
      have HN := Lib.hid hN
      have HKS := Lib.hid hK
      rw [← hM] at hs2 HM2
      rw [← hN] at hs1 hs2 h1 hs hm hn h0 h11 hM hL ⊢
      have hK1 : (N : Int) ≠ 0 := by omega
      have hK2 : (N : Int) ≠ 1 := by omega
      have e0 : ((N : Int) == 0) = false := by rw [beq_eq_false_iff_ne]; omega
      have e1 : ((N : Int) == 1) = false := by rw [beq_eq_false_iff_ne]; omega
      have hs3 := hs.1
      have hs4 := hs.2
      have hT : ∀ x ∈ L.take K, x.length ≤ 1073741824 := fun x hx => HBD.out x (List.mem_of_mem_take hx)
      have hD : ∀ x ∈ L.drop K, x.length ≤ 1073741824 := fun x hx => HBD.out x (List.mem_of_mem_drop hx)
      have C1 : Hid (∀ wx, Kp (fun i => i = b) w wx → (∃ bs, Dg wx b bs) → Calls Tryd.prog 124 #[HS, .slice A1 K c1] wx fun e w' => ∃ v', e = .returned v' ∧ Nw wx.heap.size w' v' (rootS (L.take K)) ∧ (∃ bs, Dg w' b bs) ∧ Kp (fun i => i = b) wx w') :=
        Lib.hid fun wx kx dx => IH.out K (by omega) (L.take K) _ wx (by rw [HL1.out]; exact Nat.le_refl _) (fun wy ky => HM1.out _ (HV.out _ (kx.trans ky))) dx (HK.out.later HKB.out kx) (by rw [HL1.out]; omega) hT
      have C2 : Hid (∀ wx, Kp (fun i => i = b) w wx → (∃ bs, Dg wx b bs) → Calls Tryd.prog 124 #[HS, .slice A2 M c2] wx fun e w' => ∃ v', e = .returned v' ∧ Nw wx.heap.size w' v' (rootS (L.drop K)) ∧ (∃ bs, Dg w' b bs) ∧ Kp (fun i => i = b) wx w') :=
        Lib.hid fun wx kx dx => IH.out M (by omega) (L.drop K) _ wx (by rw [HL2.out]; exact Nat.le_refl _) (fun wy ky => HM2.out _ (HV.out _ (kx.trans ky))) dx (HK.out.later HKB.out kx) (by rw [HL2.out]; omega) hD
      have HRL1 := Lib.hid (rootS_length (L.take K))
      have HRL2 := Lib.hid (rootS_length (L.drop K))
      clear IH HM1 HM2 hT hD HBD
      clear hl1 hl2 hN hK hm1 hm2 hroot h4 hs hM
      go_enter Tryd.func124, Tryd.ntmps124
      go_wp2_with (go_at_call 95
                   refine (split_any N _ hm (by omega)).mono ?_
                   rintro e w' ⟨rfl, rfl⟩
                   rw [show splt N = K by rw [HKS.out, HN.out]])
      refine (C1.out _ (Kp.refl _ _) HD.out).mono ?_
      rintro e w1 ⟨v1, rfl, hb1, hd1, hk1⟩
      have HB1 := Lib.hid hb1
      have HD1 := Lib.hid hd1
      have HK1 := Lib.hid hk1
      clear hb1 hd1 hk1
      go_wp2_with fail
      refine (C2.out _ HK1.out HD1.out).mono ?_
      rintro e w2 ⟨v2, rfl, hb2, hd2, hk2⟩
      have HB2 := Lib.hid hb2
      have HD2 := Lib.hid hd2
      have HK2 := Lib.hid hk2
      clear hb2 hd2 hk2
      go_wp2_with (go_at_call 123
                   rw [HHS.out]
                   refine (innerHashOpt_any b v1 v2 (rootS (L.take K)) (rootS (L.drop K)) _ HD2.out ((HB1.out.bys (by obtain ⟨bs, h⟩ := HD.out; exact h.lt)).later HK2.out) (HB2.out.bys (by obtain ⟨bs, h⟩ := HD1.out; exact h.lt)) (HK.out.later HKB.out (HK1.out.trans HK2.out)) (by rw [HRL1.out]; omega) (by rw [HRL2.out]; omega)).mono ?_
                   rintro e w3 ⟨v3, rfl, hb3, hd3, hk3⟩
                   have HB3 := Lib.hid hb3
                   have HD3 := Lib.hid hd3
                   have HK3 := Lib.hid hk3
                   clear hb3 hd3 hk3)
      go_ret
      exact ⟨v3, rfl, by rw [HR.out]; exact (Nw.of_own HB3.out (by unfold innerS; rw [sha_length]; omega)).mono (HK1.out.trans HK2.out).size, HD3.out, (HK1.out.trans HK2.out).trans HK3.out⟩
end Go.Proofs.YtfodkjpjejoemaaDoor
