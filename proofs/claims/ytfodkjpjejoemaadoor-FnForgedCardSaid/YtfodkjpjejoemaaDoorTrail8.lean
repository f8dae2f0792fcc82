/-
  Proofs of a tree's leaves: spec.Proved walked.
  Conditions: the argument reads as a list of slices of bytes, the number as one of its places.
-/
import Derived.Test.YtfodkjpjejoemaaDoorTrail7
import Derived.Deep.RegionLaw
namespace Go.Proofs.YtfodkjpjejoemaaDoor
open Go Go.RowKit
attribute [local go_sem ↓] Go.wp_at_zero Go.wp_at_succ

theorem Own.srcV {w : World} {base : Nat} {e : TypeId} {A : Option Addr} {n c : Nat} {xs : List Value} (h : Own w base e (.slice A n c) xs) : Src w A n xs := by
  obtain ⟨A', c', hv, h1, h2, h3, h4⟩ := h.form
  simp only [Value.slice.injEq] at hv
  obtain ⟨rfl, hn, rfl⟩ := hv
  refine ⟨hn.symm, fun hp => ?_⟩
  obtain ⟨g, rfl, _, hc⟩ := h4 (by omega)
  refine ⟨_, rfl, fun j u hj => ?_⟩
  obtain ⟨hjl, e⟩ := List.getElem?_eq_some_iff.1 hj
  have h9 := hc j hjl
  have e2 : (⟨g, 0, none⟩ : Addr).add j = ⟨g, 0 + j, none⟩ := by unfold Addr.add; split <;> simp_all
  rw [← e, e2]
  exact h9
/-- cells that are no bytes and no slices of bytes' cells: a proof's -/
theorem Byts.offP {w w' : World} {v lv av : Value} {a b : Int} {L : List UInt8} {P : Nat} {T : TypeId} (h : Byts w v L) (hb : w.heap[P]? = some (.cells #[.int .i64 a, .int .i64 b, lv, av] T (0, 0))) (hl : ∃ A n c, lv = .slice A n c) (ha : ∃ A n c, av = .slice A n c) (k : Kp (fun j => j = P) w w') : Byts w' v L :=
  Slc.off (cs := [.int .i64 a, .int .i64 b, lv, av]) h hb (fun u hu x hr => by
    have hr' : u = .int .u8 x.toNat := hr
    obtain ⟨_, _, _, rfl⟩ := hl
    obtain ⟨_, _, _, rfl⟩ := ha
    simp at hu
    rcases hu with rfl | rfl | rfl | rfl <;> simp at hr') k fun _ _ h => h

theorem proved_step {w wr w3 w4 : World} {b5 nl cl m c10 mv cv : Nat} {Al A10 Av : Option Addr} {v3 : Value} {vals : List Value} {A2 : List (List UInt8)} {lf r : List UInt8} {a b : Int}
    (hb3 : Byts w3 v3 r) (k3 : Keep wr w3) (k34 : Keep w3 w4) (hkp : Keep w wr) (hx5 : wr.heap[b5]? = some (.cells #[.int .i64 a, .int .i64 b, .slice Al nl cl, .slice Av mv cv] 28 (0, 0)))
    (hx4 : wr.heap[w.heap.size]? = some (.cells #[.int .i64 0, .int .i64 0, .slice none 0 0, .slice none 0 0] 28 (0, 0))) (hw5 : w.heap.size < b5)
    (how : Own w4 w.heap.size 22 (.slice A10 m c10) (v3 :: vals)) (hvb : ∀ k (h : k < vals.length) (h2 : k < A2.length), Byts wr vals[k] A2[k]) (hlv : Byts wr (.slice Al nl cl) lf) :
    (w4.setCell ⟨b5, 3, none⟩ (.slice A10 m c10)).heap[b5]? = some (.cells #[.int .i64 a, .int .i64 b, .slice Al nl cl, .slice A10 m c10] 28 (0, 0)) ∧ Own (w4.setCell ⟨b5, 3, none⟩ (.slice A10 m c10)) w.heap.size 22 (.slice A10 m c10) (v3 :: vals) ∧
    (∀ k (h : k < (v3 :: vals).length) (h2 : k < (r :: A2).length), Byts (w4.setCell ⟨b5, 3, none⟩ (.slice A10 m c10)) (v3 :: vals)[k] (r :: A2)[k]) ∧ Byts (w4.setCell ⟨b5, 3, none⟩ (.slice A10 m c10)) (.slice Al nl cl) lf ∧
    (w4.setCell ⟨b5, 3, none⟩ (.slice A10 m c10)).heap[w.heap.size]? = some (.cells #[.int .i64 0, .int .i64 0, .slice none 0 0, .slice none 0 0] 28 (0, 0)) ∧ Keep w (w4.setCell ⟨b5, 3, none⟩ (.slice A10 m c10)) := by
  have kr4 : Keep wr w4 := k3.trans k34
  have h5 : w4.heap[b5]? = some (.cells #[.int .i64 a, .int .i64 b, .slice Al nl cl, .slice Av mv cv] 28 (0, 0)) := (kr4.block b5 (lt_of_block hx5) (fun x => x)).trans hx5
  have h4 : w4.heap[w.heap.size]? = some (.cells #[.int .i64 0, .int .i64 0, .slice none 0 0, .slice none 0 0] 28 (0, 0)) := (kr4.block _ (lt_of_block hx4) (fun x => x)).trans hx4
  have kset : Kp (fun j => j = b5) w4 (w4.setCell ⟨b5, 3, none⟩ (.slice A10 m c10)) := (Kp.refl (fun j => j = b5) w4).setCell (p := ⟨b5, 3, none⟩) (fun _ => rfl) _
  have off : ∀ {v L}, Byts w4 v L → Byts (w4.setCell ⟨b5, 3, none⟩ (.slice A10 m c10)) v L := fun h => h.offP h5 ⟨_, _, _, rfl⟩ ⟨_, _, _, rfl⟩ kset
  refine ⟨?_, how.kp_type h5 (by decide) (fun i _ e => e) kset, ?_, off (hlv.keep kr4), (kset.block _ (lt_of_block h4) (by omega)).trans h4, (hkp.trans kr4).trans' kset (fun j hj e => by omega)⟩
  · rw [heap_setCell_same _ _ _ _ _ _ h5]
    simp
  · intro k hk hk2
    cases k with
    | zero => exact off (hb3.keep k34)
    | succ k => exact off ((hvb k (by simpa using hk) (by simpa using hk2)).keep kr4)

set_option maxRecDepth 100000 in
set_option maxHeartbeats 4000000 in
theorem specProved_any (v : Value) (L : List (List UInt8)) (i : Nat) (w : World) (hv : Mat w v L) (hi : i < L.length) (hL : L.length ≤ 1000000) (hb : ∀ x ∈ L, x.length ≤ 1073741824) :
    Calls Tryd.prog 37 #[v, .int .i64 i] w fun e w' => ∃ v', e = .returned v' ∧ PrfV w' v' (prfOf L i) ∧ Keep w w' := by
  have HV := Lib.hid hv
  have HB := Lib.hid hb
  obtain ⟨A, c, rfl, h1, h2, h3, h4⟩ := hv
  obtain ⟨n, hn⟩ : ∃ n, n = L.length := ⟨_, rfl⟩
  have HN := Lib.hid hn
  obtain ⟨g, off, rfl, hc⟩ := h4 (by omega)
  obtain ⟨u, hu, hur⟩ := hc i hi
  obtain ⟨x, hx⟩ : ∃ x, x = L[i] := ⟨_, rfl⟩
  have hxb : x.length ≤ 1073741824 := by rw [hx]; exact hb _ (List.getElem_mem hi)
  have hxg : L.getD i [] = x := by rw [hx, List.getD_eq_getElem?_getD, List.getElem?_eq_getElem hi]; rfl
  rw [← hx] at hur
  have HX := Lib.hid hxg
  have HUR := Lib.hid hur
  obtain ⟨Au, cu, rfl, -, -, -, -⟩ := hur
  rw [← hn] at h1 hL hi HV ⊢
  unfold maxLen at h2
  have hgl := World.block_lt_of_cell? w _ hu
  simp only at hgl
  clear hb h3 h4 hn hc hx hxg
  go_enter Tryd.func37, Tryd.ntmps37
  go_wp2_with (go_at_call 35
               refine (leafSum_any _ x _ (Byts.keep HUR.out ((Kp.refl _ _).alloc _)) hxb).mono ?_
               rintro e w1 ⟨v1, rfl, hb1, hk1⟩
               have HB1 := Lib.hid hb1
               have HK1 := Lib.hid hk1
               obtain ⟨Al, cl, rfl, -, -, -, -⟩ := hb1
               clear hk1)
  obtain ⟨b5, hb5⟩ : ∃ b5, b5 = w1.heap.size := ⟨_, rfl⟩
  have hw5 : w.heap.size < b5 := by
    have := HK1.out.size
    rw [World.size_alloc] at this
    rw [hb5]; omega
  obtain ⟨w2, hw2⟩ : ∃ w2, w2 = w1.alloc (.cells #[.int .i64 n, .int .i64 i, .slice Al (leafS x).length cl, .slice none 0 0] 28) := ⟨_, rfl⟩
  have hk12 : Keep w1 w2 := by rw [hw2]; exact (Kp.refl _ _).alloc _
  have hrow5 : w2.heap[b5]? = some (.cells #[.int .i64 n, .int .i64 i, .slice Al (leafS x).length cl, .slice none 0 0] 28 (0, 0)) := by rw [hw2, hb5]; exact heap_alloc_new _ _
  have hrow4 : w2.heap[w.heap.size]? = some (.cells #[.int .i64 0, .int .i64 0, .slice none 0 0, .slice none 0 0] 28 (0, 0)) := by
    rw [hk12.block _ (by rw [← hb5]; exact hw5) (fun x => x), HK1.out.block _ (by simp) (fun x => x)]
    exact heap_alloc_new _ _
  have hkw2 : Keep w w2 := (((Kp.refl _ _).alloc _).trans HK1.out).trans hk12
  have HR5 := Lib.hid hrow5
  have HR4 := Lib.hid hrow4
  have HKW2 := Lib.hid hkw2
  have HL2 : Hid (Byts w2 (.slice Al (leafS x).length cl) (leafS x)) := Lib.hid (HB1.out.keep hk12)
  obtain ⟨nl, hnl⟩ : ∃ nl, nl = (leafS x).length := ⟨_, rfl⟩
  rw [← hnl] at HR5 HL2
  rw [← hw2, ← hb5, ← hnl]
  have HNL := Lib.hid hnl
  clear hb5 hw2 hk12 hrow5 hrow4 hkw2 HK1 HB1 hnl
  go_loopw [0, 1] (fun vv jv wr => ∃ (M A2 : List (List UInt8)) (j : Nat) (av : Value) (vals : List Value), Mat w vv M ∧ M.length ≤ 1000000 ∧ (∀ y ∈ M, y.length ≤ 1073741824) ∧ jv = .int .i64 j ∧ j < M.length ∧ auntsS M j ++ A2 = auntsS L i ∧ wr.heap[b5]? = some (.cells #[.int .i64 n, .int .i64 i, .slice Al nl cl, av] 28 (0, 0)) ∧ Own wr w.heap.size 22 av vals ∧ vals.length = A2.length ∧ (∀ k (h : k < vals.length) (h2 : k < A2.length), Byts wr vals[k] A2[k]) ∧ Byts wr (.slice Al nl cl) (leafS x) ∧ wr.heap[w.heap.size]? = some (.cells #[.int .i64 0, .int .i64 0, .slice none 0 0, .slice none 0 0] 28 (0, 0)) ∧ Keep w wr) (fun vv _ _ => lenV vv)
  case atStart => exact ⟨L, [], i, _, [], HV.out, by rw [← HN.out]; exact hL, HB.out, rfl, by rw [← HN.out]; exact hi, by simp, HR5.out, Own.nil_ _ _ _, rfl, fun k h => absurd h (by simp), HL2.out, HR4.out, HKW2.out⟩
  case round =>
    obtain ⟨M, A2, j, av, vals, hm, hml, hmb, rfl, hj, haa, hr5, how, hvl, hvb, hlv, hr4, hkp⟩ := hrel
    have HM := Lib.hid hm
    have HMB := Lib.hid hmb
    have HAA := Lib.hid haa
    have HX5 := Lib.hid hr5
    have HOW := Lib.hid how
    have HVL := Lib.hid hvl
    have HVB := Lib.hid hvb
    have HLV := Lib.hid hlv
    have HX4 := Lib.hid hr4
    have HKP := Lib.hid hkp
    have hws := hkp.size
    have hb5l := lt_of_block hr5
    have d3 : wr.cell? ⟨b5, 3, none⟩ = some av := by rw [cell_of_row _ _ _ _ _ _ hr5]; rfl
    have f3 : wr.frozen? ⟨b5, 3, none⟩ = false := frozen_of_row _ _ _ _ _ hr5
    obtain ⟨Am, cm, rfl, m1, m2, m3, m4⟩ := hm
    obtain ⟨Av, cv, rfl, o1, -, o3, -⟩ := how.form
    have HAV := Lib.hid (show Av = none → vals.length = 0 from fun e => by have := o3 e; omega)
    have hv20 : vals.length ≤ 1000000 := by
      have h8 := auntsS_count 20 L i (by rw [← HN.out]; omega)
      rw [← haa, List.length_append] at h8
      omega
    have HONE : Hid (∀ u ∈ vals, u.oneCell' = true) := Lib.hid (by
      intro u hu
      obtain ⟨k, hk, rfl⟩ := List.getElem_of_mem hu
      obtain ⟨_, _, e, _⟩ := hvb k hk (by rw [← hvl]; exact hk)
      rw [e]; rfl)
    obtain ⟨N, hN⟩ : ∃ N, N = M.length := ⟨_, rfl⟩
    have HNN := Lib.hid hN
    unfold maxLen at m2
    clear hmb haa hr5 how hvl hvb hlv hr4 hkp m3 m4
    by_cases hmore : 2 ≤ M.length
    · have hs := splt_lt M.length hmore
      have haunt := auntsS_more M j hmore
      obtain ⟨K, hK⟩ : ∃ K, K = splt M.length := ⟨_, rfl⟩
      rw [← hK] at hs haunt
      obtain ⟨A1, c1, hs1, hm1⟩ := slc_to (P := Tryd.prog) Tryd.underlying23 szM HM.out K (by omega)
      obtain ⟨A3, c3, hs2, hm2⟩ := slc_from (P := Tryd.prog) Tryd.underlying23 szM HM.out K (by omega)
      have HM1 := Lib.hid hm1
      have HM2 := Lib.hid hm2
      have HAU := Lib.hid haunt
      obtain ⟨Q, hQ⟩ : ∃ Q, Q = M.length - K := ⟨_, rfl⟩
      have hl1 : (M.take K).length = K := by rw [List.length_take]; omega
      have hl2 : (M.drop K).length = Q := by rw [List.length_drop]; omega
      have HL1 := Lib.hid hl1
      have HL22 := Lib.hid hl2
      have HKS := Lib.hid hK
      rw [← hQ] at hs2 HM2
      rw [← hN] at hs1 hs2 m1 hs hmore hml hj hQ ⊢
      have hs3 := hs.1
      have hs4 := hs.2
      have e1 : decide ((1 : Int) < (N : Int)) = true := decide_eq_true (by omega)
      have hKQ : K + Q = N := by omega
      have HKQ := Lib.hid hKQ
      have HT := Lib.hid (fun b (hb : b ∈ M.take K) => HMB.out b (List.mem_of_mem_take hb))
      have HD := Lib.hid (fun b (hb : b ∈ M.drop K) => HMB.out b (List.mem_of_mem_drop hb))
      have C1 : Hid (∀ wx, Keep w wx → Calls Tryd.prog 28 #[.slice A1 K c1] wx fun e w' => ∃ v', e = .returned v' ∧ Byts w' v' (rootS (M.take K)) ∧ Keep wx w') :=
        Lib.hid fun wx kx => specRoot_n _ (M.take K) _ wx (Nat.le_refl _) (HM1.out _ (Mat.keep HM.out kx)) (by rw [HL1.out]; omega) HT.out
      have C2 : Hid (∀ wx, Keep w wx → Calls Tryd.prog 28 #[.slice A3 Q c3] wx fun e w' => ∃ v', e = .returned v' ∧ Byts w' v' (rootS (M.drop K)) ∧ Keep wx w') :=
        Lib.hid fun wx kx => specRoot_n _ (M.drop K) _ wx (Nat.le_refl _) (HM2.out _ (Mat.keep HM.out kx)) (by rw [HL22.out]; omega) HD.out
      clear hl1 hl2 hN hK hm1 hm2 haunt hs hQ hKQ
      by_cases hjk : j < K
      · go_wp2_with (go_at_call 31
                     refine (specSplit_any N _ hmore (by omega)).mono ?_
                     rintro e w' ⟨rfl, rfl⟩
                     rw [show splt N = K by rw [HKS.out, HNN.out]])
        have hz0 : Keep wr wr.drew := (Kp.refl _ _).drew
        have hzw : Keep w wr.drew := HKP.out.drew
        have HZW := Lib.hid hzw
        have HZ0 := Lib.hid hz0
        clear hz0 hzw
        go_region_law (first
          | (go_simp; go_at_call 28
             refine (C2.out _ HZW.out).mono ?_
             rintro e w3 ⟨v3, rfl, hb3, hk3⟩
             have HB3 := Lib.hid hb3
             obtain ⟨A9, c9, rfl, -, -, -, -⟩ := hb3
             have hz3 := HZ0.out.trans hk3
             have HZ3 := Lib.hid hz3
             have d33 := hz3.cell_of d3 (fun x => x)
             have f33 := (hz3.frozen (p := ⟨b5, 3, none⟩) hb5l (fun x => x)).trans f3
             have l33 : b5 < w3.heap.size := Nat.lt_of_lt_of_le hb5l hz3.size
             have l30 : w.heap.size ≤ w3.heap.size := Nat.le_trans hws hz3.size
             clear hk3 hz3)
          | (refine step_app rfl (.tmp 29) (.tmp 31) 23 rfl appM rfl (by first | exact Own.made w3 w.heap.size 22 [.slice A9 (rootS (M.drop K)).length c9] l30 (by simp [maxLen]) | exact Own.drew (Own.made w3 w.heap.size 22 [.slice A9 (rootS (M.drop K)).length c9] l30 (by simp [maxLen])) | exact Own.drewN (Own.made w3 w.heap.size 22 [.slice A9 (rootS (M.drop K)).length c9] l30 (by simp [maxLen])) _) rfl (news := vals) (Own.srcV (HOW.out.keep (by repeat (first | exact HZ3.out | apply Kp.drew | apply Kp.drewN | apply Kp.alloc)))) HONE.out HAV.out (by first | omega | (simp; omega)) (by first | omega | (simp; omega)) ?_
             intro v4 w4 h4 hk4 _
             replace h4 : Own w4 w.heap.size 22 v4 (.slice A9 (rootS (M.drop K)).length c9 :: vals) := h4
             have HO4 := Lib.hid h4
             have hk34 : Keep w3 w4 := Kp.trans' (by repeat (first | exact Kp.refl _ _ | apply Kp.drew | apply Kp.drewN | apply Kp.alloc)) hk4 (fun i hi e => by replace e : some i = some w3.heap.size := e; simp at e; omega)
             have HK34 := Lib.hid hk34
             obtain ⟨A10, c10, rfl, -, -, -, -⟩ := h4.form
             have d34 := hk34.cell_of d33 (fun x => x)
             have f34 := (hk34.frozen (p := ⟨b5, 3, none⟩) l33 (fun x => x)).trans f33
             have l34 : b5 < w4.heap.size := Nat.lt_of_lt_of_le l33 hk34.size
             clear h4 hk4 hk34))
        all_goals
          go_wp2_with fail
          have hst := proved_step HB3.out HZ3.out HK34.out HKP.out HX5.out HX4.out hw5 HO4.out HVB.out HLV.out
          have HST := Lib.hid hst
          clear hst
          go_roundw
          case rel =>
            obtain ⟨s1, s2, s3, s4, s5, s6⟩ := HST.out
            refine ⟨M.take K, rootS (M.drop K) :: A2, j, _, .slice A9 (rootS (M.drop K)).length c9 :: vals, HM1.out _ HM.out, by rw [HL1.out]; omega, HT.out, rfl, by rw [HL1.out]; exact hjk, ?_, s1, s2, by rw [List.length_cons, List.length_cons, HVL.out], s3, s4, s5, s6⟩
            have h8 := HAU.out
            rw [if_pos hjk] at h8
            rw [← HAA.out, h8, List.append_assoc]; rfl
          case measure => simp [lenV]; omega
      · go_wp2_with (go_at_call 31
                     refine (specSplit_any N _ hmore (by omega)).mono ?_
                     rintro e w' ⟨rfl, rfl⟩
                     rw [show splt N = K by rw [HKS.out, HNN.out]])
        have hz0 : Keep wr wr.drew := (Kp.refl _ _).drew
        have hzw : Keep w wr.drew := HKP.out.drew
        have HZW := Lib.hid hzw
        have HZ0 := Lib.hid hz0
        clear hz0 hzw
        go_region_law (first
          | (go_simp; go_at_call 28
             refine (C1.out _ HZW.out).mono ?_
             rintro e w3 ⟨v3, rfl, hb3, hk3⟩
             have HB3 := Lib.hid hb3
             obtain ⟨A9, c9, rfl, -, -, -, -⟩ := hb3
             have hz3 := HZ0.out.trans hk3
             have HZ3 := Lib.hid hz3
             have d33 := hz3.cell_of d3 (fun x => x)
             have f33 := (hz3.frozen (p := ⟨b5, 3, none⟩) hb5l (fun x => x)).trans f3
             have l33 : b5 < w3.heap.size := Nat.lt_of_lt_of_le hb5l hz3.size
             have l30 : w.heap.size ≤ w3.heap.size := Nat.le_trans hws hz3.size
             clear hk3 hz3)
          | (refine step_app rfl (.tmp 41) (.tmp 43) 23 rfl appM rfl (by first | exact Own.made w3 w.heap.size 22 [.slice A9 (rootS (M.take K)).length c9] l30 (by simp [maxLen]) | exact Own.drew (Own.made w3 w.heap.size 22 [.slice A9 (rootS (M.take K)).length c9] l30 (by simp [maxLen])) | exact Own.drewN (Own.made w3 w.heap.size 22 [.slice A9 (rootS (M.take K)).length c9] l30 (by simp [maxLen])) _) rfl (news := vals) (Own.srcV (HOW.out.keep (by repeat (first | exact HZ3.out | apply Kp.drew | apply Kp.drewN | apply Kp.alloc)))) HONE.out HAV.out (by first | omega | (simp; omega)) (by first | omega | (simp; omega)) ?_
             intro v4 w4 h4 hk4 _
             replace h4 : Own w4 w.heap.size 22 v4 (.slice A9 (rootS (M.take K)).length c9 :: vals) := h4
             have HO4 := Lib.hid h4
             have hk34 : Keep w3 w4 := Kp.trans' (by repeat (first | exact Kp.refl _ _ | apply Kp.drew | apply Kp.drewN | apply Kp.alloc)) hk4 (fun i hi e => by replace e : some i = some w3.heap.size := e; simp at e; omega)
             have HK34 := Lib.hid hk34
             obtain ⟨A10, c10, rfl, -, -, -, -⟩ := h4.form
             have d34 := hk34.cell_of d33 (fun x => x)
             have f34 := (hk34.frozen (p := ⟨b5, 3, none⟩) l33 (fun x => x)).trans f33
             have l34 : b5 < w4.heap.size := Nat.lt_of_lt_of_le l33 hk34.size
             clear h4 hk4 hk34))
        all_goals
          go_wp2_with fail
          have hst := proved_step HB3.out HZ3.out HK34.out HKP.out HX5.out HX4.out hw5 HO4.out HVB.out HLV.out
          have HST := Lib.hid hst
          clear hst
          go_roundw
          case rel =>
            obtain ⟨s1, s2, s3, s4, s5, s6⟩ := HST.out
            refine ⟨M.drop K, rootS (M.take K) :: A2, j - K, _, .slice A9 (rootS (M.take K)).length c9 :: vals, HM2.out _ HM.out, by rw [HL22.out]; have := HKQ.out; omega, HD.out, by go_num, by rw [HL22.out]; have := HKQ.out; omega, ?_, s1, s2, by rw [List.length_cons, List.length_cons, HVL.out], s3, s4, s5, s6⟩
            have h8 := HAU.out
            rw [if_neg hjk] at h8
            rw [← HAA.out, h8, List.append_assoc]; rfl
          case measure => have := HKQ.out; simp [lenV]; omega
    · have hn1 : N = 1 := by omega
      have e1 : decide ((1 : Int) < (N : Int)) = false := decide_eq_false (by omega)
      have r0 : wr.cell? ⟨b5, 0, none⟩ = some (.int .i64 n) := by rw [cell_of_row _ _ _ _ _ _ HX5.out]; rfl
      have r1 : wr.cell? ⟨b5, 1, none⟩ = some (.int .i64 i) := by rw [cell_of_row _ _ _ _ _ _ HX5.out]; rfl
      have r2 : wr.cell? ⟨b5, 2, none⟩ = some (.slice Al nl cl) := by rw [cell_of_row _ _ _ _ _ _ HX5.out]; rfl
      have z0 : wr.cell? ⟨w.heap.size, 0, none⟩ = some (.int .i64 0) := by rw [cell_of_row _ _ _ _ _ _ HX4.out]; rfl
      have z1 : wr.cell? ⟨w.heap.size, 1, none⟩ = some (.int .i64 0) := by rw [cell_of_row _ _ _ _ _ _ HX4.out]; rfl
      have z2 : wr.cell? ⟨w.heap.size, 2, none⟩ = some (.slice none 0 0) := by rw [cell_of_row _ _ _ _ _ _ HX4.out]; rfl
      have z3 : wr.cell? ⟨w.heap.size, 3, none⟩ = some (.slice none 0 0) := by rw [cell_of_row _ _ _ _ _ _ HX4.out]; rfl
      have zf : ∀ k, wr.frozen? ⟨w.heap.size, k, none⟩ = false := fun k => frozen_of_row _ _ _ _ _ HX4.out
      have hz5 := hw5
      rw [← hN] at hml m1 hj ⊢
      clear hN
      go_wp2_with fail
      have kset : Kp (fun q => q = w.heap.size) wr ((((wr.setCell ⟨w.heap.size, 0, none⟩ (.int .i64 n)).setCell ⟨w.heap.size, 1, none⟩ (.int .i64 i)).setCell ⟨w.heap.size, 2, none⟩ (.slice Al nl cl)).setCell ⟨w.heap.size, 3, none⟩ (.slice Av vals.length cv)) :=
        ((((Kp.refl (fun q => q = w.heap.size) wr).setCell (p := ⟨w.heap.size, 0, none⟩) (fun _ => rfl) _).setCell (p := ⟨w.heap.size, 1, none⟩) (fun _ => rfl) _).setCell (p := ⟨w.heap.size, 2, none⟩) (fun _ => rfl) _).setCell (p := ⟨w.heap.size, 3, none⟩) (fun _ => rfl) _
      refine bodyPost_ret (v := .agg #[.int .i64 n, .int .i64 i, .slice Al nl cl, .slice Av vals.length cv]) (by simp [results, Tryd.results37, go_sem, z0, z1, z2, z3]) rfl ⟨_, rfl, ?_, HKP.out.trans' kset (fun q hq e => by omega)⟩
      have hA2 : A2 = auntsS L i := by
        rw [← HAA.out, auntsS_one M j (by rw [← HNN.out]; omega)]; rfl
      have hlv9 := HLV.out.offP HX4.out ⟨_, _, _, rfl⟩ ⟨_, _, _, rfl⟩ kset
      have how9 := HOW.out.kp_type HX4.out (by decide) (fun i _ e => e) kset
      refine ⟨.slice Al nl cl, .slice Av vals.length cv, ?_, ?_, ?_, ?_⟩
      · show _ = Value.agg #[Value.int IntKind.i64 ((L.length : Nat) : Int), Value.int IntKind.i64 (i : Int), _, _]
        rw [← HN.out]
      · show Byts _ _ (leafS (L.getD i []))
        rw [HX.out]; exact hlv9
      · show Mat _ _ (auntsS L i)
        rw [← hA2]
        exact how9.slc HVL.out fun k hk hk2 => (HVB.out k hk hk2).offP HX4.out ⟨_, _, _, rfl⟩ ⟨_, _, _, rfl⟩ kset
      · show -9223372036854775808 ≤ ((L.length : Nat) : Int) ∧ ((L.length : Nat) : Int) ≤ 9223372036854775807 ∧ -9223372036854775808 ≤ ((i : Nat) : Int) ∧ ((i : Nat) : Int) ≤ 9223372036854775807
        rw [← HN.out]; omega
end Go.Proofs.YtfodkjpjejoemaaDoor
