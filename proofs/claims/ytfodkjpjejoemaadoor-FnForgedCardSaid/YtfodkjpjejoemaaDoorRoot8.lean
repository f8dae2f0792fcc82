/-
  Roots of trees: the root level by level walked.
  Conditions: the argument reads as a list of slices of bytes; SHA-256's table holds its numbers.
-/
import Derived.Test.YtfodkjpjejoemaaDoorRoot7
namespace Go.Proofs.YtfodkjpjejoemaaDoor
open Go Go.RowKit
attribute [local go_sem ↓] Go.wp_at_zero Go.wp_at_succ

theorem lvl_all {α : Type} (g : α → α → α) (P : α → Prop) (hg : ∀ x y, P (g x y)) : ∀ (M : List α), (∀ x ∈ M, P x) → ∀ x ∈ lvl g M, P x
  | [], _, x, hx => by rw [lvl_nil] at hx; cases hx
  | [a], h, x, hx => by rw [lvl_one] at hx; exact h x hx
  | a :: b :: t, h, x, hx => by
    rw [lvl_two] at hx
    rcases List.mem_cons.1 hx with rfl | hx
    · exact hg _ _
    · exact lvl_all g P hg t (fun y hy => h y (by simp [hy])) x hx
theorem Byp.bys {w : World} {bi bd : Nat} {v : Value} {L : List UInt8} (h : Byp w (Two bi bd) v L) : Bys w bd v L := fun wx kx => h wx (kx.mono fun _ _ e => .inr e)
theorem take_snoc2 {α : Type} (L : List α) (k : Nat) (h : k < L.length) : L.take (k + 1) = L.take k ++ [L[k]] := by
  rw [List.take_add_one, List.getElem?_eq_getElem h]; rfl
theorem lvl_take {α : Type} (g : α → α → α) (M : List α) (r : Nat) (hr : r % 2 = 0) (h : r + 1 < M.length) : lvl g (M.take (r + 2)) = lvl g (M.take r) ++ [g (M[r]'(by omega)) M[r + 1]] := by
  have e : M.take (r + 2) = M.take r ++ [M[r]'(by omega), M[r + 1]] := by
    rw [show r + 2 = (r + 1) + 1 from rfl, take_snoc2 M (r + 1) h, take_snoc2 M r (by omega), List.append_assoc]; rfl
  rw [e, lvl_append g _ _ (by rw [List.length_take]; omega), lvl_two, lvl_nil]
theorem lvl_last {α : Type} (g : α → α → α) (M : List α) (r : Nat) (hr : r % 2 = 0) (h : r + 1 = M.length) : lvl g M = lvl g (M.take r) ++ [M[r]'(by omega)] := by
  have e : M = M.take r ++ [M[r]'(by omega)] := by
    rw [← take_snoc2 M r (by omega), h, List.take_length]
  conv => lhs; rw [e]
  rw [lvl_append g _ _ (by rw [List.length_take]; omega), lvl_one]

theorem wrap64r (z : Int) (h1 : -9223372036854775808 ≤ z) (h2 : z ≤ 9223372036854775807) : IntKind.i64.wrap z = z := by
  simp [IntKind.wrap, IntKind.bits, IntKind.signed]; omega

set_option maxRecDepth 100000 in
set_option maxHeartbeats 4000000 in
theorem hashIter_any (v : Value) (L : List (List UInt8)) (w : World) (hv : Mat w v L) (hK : KTab w) (hL : L.length ≤ 1073741824) (hb : ∀ x ∈ L, x.length ≤ 1073741824) :
    Calls Tryd.prog 93 #[v] w fun e w' => ∃ v', e = .returned v' ∧ Byts w' v' (rootS L) ∧ Keep w w' := by
  have HV := Lib.hid hv
  have HKT := Lib.hid hK
  have HB := Lib.hid hb
  obtain ⟨A, c, rfl, h1, h2, h3, h4⟩ := hv
  obtain ⟨N, hN⟩ : ∃ N, N = L.length := ⟨_, rfl⟩
  have HN := Lib.hid hN
  have HROOT : Hid (tree innerS (sha []) (L.map leafS) = rootS L) := Lib.hid rfl
  rw [← hN] at h1 hL ⊢
  unfold maxLen at h2
  have hmk := makeM2 N (by omega)
  clear hK hb h3 h4 hN
  go_enter Tryd.func93, Tryd.ntmps93
  go_wp2_with (go_at_call 112
               refine (newDg_any _).mono ?_
               rintro e w1 ⟨bd, rfl, hbd, hd1, hk1⟩
               have HD1 := Lib.hid hd1
               have HK1 : Hid (Keep w w1) := Lib.hid (((Kp.refl _ w).alloc _).trans hk1)
               have HI1 : Hid (Items w1 w.heap.size w.heap.size bd N (List.replicate N (.slice none 0 0))) := Lib.hid ⟨by simp, by
                 have := (Own.made w w.heap.size 22 (List.replicate N (.slice none 0 0)) (Nat.le_refl _) (by rw [List.length_replicate]; unfold maxLen; omega)).keep hk1
                 simpa using this⟩
               have hbd1 : w.heap.size < bd := by simp at hbd; omega
               clear hd1 hk1 hbd)
  go_loopw [16] (fun iv wr => ∃ (i : Nat) (vals : List Value), i ≤ N ∧ iv = .int .i64 i ∧ Items wr w.heap.size w.heap.size bd N vals ∧ (∀ k (h : k < vals.length) (h2 : k < L.length), k < i → Byp wr (Two w.heap.size bd) vals[k] (leafS L[k])) ∧ Dg wr bd [] ∧ Keep w wr) (fun iv _ => N - (intOf iv).toNat)
  case atStart => exact ⟨0, _, Nat.zero_le _, rfl, HI1.out, fun k _ _ h => absurd h (by omega), HD1.out, HK1.out⟩
  case round =>
    obtain ⟨i, vals, hi, rfl, hit, hby, hdg, hkp⟩ := hrel
    have HIT := Lib.hid hit
    have HBY := Lib.hid hby
    have HDG := Lib.hid hdg
    have HKP := Lib.hid hkp
    clear hit hby hdg hkp
    by_cases hlt : i < N
    · have hil : i < L.length := by rw [← HN.out]; exact hlt
      have hmat : Mat wr (.slice A L.length c) L := Mat.keep HV.out HKP.out
      have h4 := hmat.of_eq.2.2.2.2
      obtain ⟨g, off, rfl, hc⟩ := h4 (by omega)
      obtain ⟨u, hu, hur⟩ := hc i hil
      have HU := Lib.hid hur
      have hxl := HB.out L[i] (List.getElem_mem hil)
      obtain ⟨x, hx⟩ : ∃ x, x = L[i] := ⟨_, rfl⟩
      rw [← hx] at HU hxl
      have HX := Lib.hid hx
      have hiv : i < vals.length := by rw [HIT.out.1]; exact hlt
      have HIV := Lib.hid hiv
      clear hc hur h4 hx hiv
      go_wp2_with (go_at_call 121
                   refine (leafHash_any u x _ HU.out (HKT.out.keep HKP.out (fun x => x)) hxl).mono ?_
                   rintro e w2 ⟨v2, rfl, hb2, hk2⟩
                   have HB2 := Lib.hid hb2
                   have HK2 := Lib.hid hk2
                   have HI2 := Lib.hid (HIT.out.keep hk2.keep (by omega))
                   have hw2 := HI2.out.2.cell_ i (by rw [HIT.out.1]; exact hlt)
                   have hc2 := hw2.1
                   have hf2 := hw2.2
                   have hl2 := (HI2.out.2.lt _ rfl).2
                   obtain ⟨g2, o2, c2, rfl, -, -⟩ := hb2
                   clear hk2 hw2)
      go_roundw
      case rel =>
        refine ⟨i + 1, vals.set i _, hlt, by go_num, HI2.out.set_ i _, ?_, (HDG.out.kp HK2.out (fun x => x)).kp (S := fun j => j = w.heap.size) (Kp.setCell (S := fun j => j = w.heap.size) (Kp.refl _ _) (fun _ => rfl) _) (by omega), (HKP.out.trans HK2.out).setCell (fun h => absurd h (Nat.lt_irrefl _)) _⟩
        intro k hk hk2 hki
        have hk5 : Kp (Two w.heap.size bd) w2 (w2.setCell ⟨w.heap.size, i, none⟩ (.slice (some ⟨g2, o2, none⟩) (leafS x).length c2)) := Kp.setCell (Kp.refl _ _) (fun _ => .inl rfl) _
        by_cases hki2 : k = i
        · subst hki2
          rw [List.getElem_set_self, ← HX.out]
          exact (HB2.out.byp (fun j hj => by have := HDG.out.lt; rcases hj with rfl | rfl <;> omega)).later hk5
        · rw [List.getElem_set_ne (by omega)]
          exact ((HBY.out k (by simpa using hk) hk2 (by omega)).later HK2.out.keep).later hk5
      case measure => simp [intOf]; omega
    · obtain rfl : i = N := by omega
      have hmap : ∀ k (h : k < vals.length) (h2 : k < (L.map leafS).length), k < i → Byp wr (Two w.heap.size bd) vals[k] (L.map leafS)[k] := fun k h h2 hk => by
        rw [List.getElem_map]; exact HBY.out k h (by simpa using h2) hk
      have HMAP := Lib.hid hmap
      have HM0 : Hid ((L.map leafS).length = i) := Lib.hid (by rw [List.length_map]; exact HN.out.symm)
      have HL0 : Hid (∀ x ∈ L.map leafS, x.length = 32) := Lib.hid (fun x hx => by obtain ⟨y, _, rfl⟩ := List.mem_map.1 hx; exact sha_length _)
      obtain ⟨M0, hM0⟩ : ∃ M0, M0 = L.map leafS := ⟨_, rfl⟩
      rw [← hM0] at HMAP HM0 HL0 HROOT
      clear hmap HBY hM0 HB HV
      go_wp2_with fail
      go_loopw [7] (fun sv wr => ∃ (sz : Nat) (M : List (List UInt8)) (vals : List Value), sz ≤ i ∧ sv = .int .i64 sz ∧ M.length = sz ∧ Items wr w.heap.size w.heap.size bd i vals ∧ (∀ k (h : k < vals.length) (h2 : k < M.length), Byp wr (Two w.heap.size bd) vals[k] M[k]) ∧ tree innerS (sha []) M = rootS L ∧ (∀ x ∈ M, x.length = 32) ∧ (∃ bs, Dg wr bd bs) ∧ Keep w wr) (fun sv _ => (intOf sv).toNat)
      case atStart => exact ⟨i, M0, vals, Nat.le_refl _, rfl, HM0.out, HIT.out, fun k h h2 => HMAP.out k h h2 (by rw [← HM0.out]; exact h2), HROOT.out, HL0.out, ⟨_, HDG.out⟩, HKP.out⟩
      case round =>
        clear HMAP HM0 HL0 HROOT HIT HDG HKP HN hlt hi
        obtain ⟨sz, M, vals2, hsz, rfl, hMl, hit, hby, htr, hln, hdg, hkp⟩ := hrel
        have HML := Lib.hid hMl
        have HIT := Lib.hid hit
        have HBY := Lib.hid hby
        have HTR := Lib.hid htr
        have HLN := Lib.hid hln
        have HDG := Lib.hid hdg
        have HKP := Lib.hid hkp
        clear hMl hit hby htr hln hdg hkp
        by_cases hs0 : sz = 0
        · subst hs0
          have hM : M = [] := List.eq_nil_of_length_eq_zero HML.out
          have hroot : rootS L = sha [] := by rw [← HTR.out, hM]; rfl
          have HR := Lib.hid hroot
          clear hM hroot
          go_wp2_with (go_at_call 122
                       refine (emptyHash_any _ (HKT.out.keep HKP.out (fun x => x))).mono ?_
                       rintro e w3 ⟨v3, rfl, hb3, hk3⟩
                       have HB3 := Lib.hid hb3
                       have HK3 := Lib.hid hk3
                       clear hb3 hk3)
          go_ret
          exact ⟨v3, rfl, by rw [HR.out]; exact HB3.out.byts, HKP.out.trans HK3.out⟩
        · by_cases hs1 : sz = 1
          · subst hs1
            have hw2 := HIT.out.2.cell_ 0 (by rw [HIT.out.1]; omega)
            have hc2 := hw2.1
            have hroot : rootS L = M[0]'(by rw [HML.out]; omega) := by
              rw [← HTR.out]
              have h9 := HML.out
              match M, h9 with
              | [a], _ => rfl
            have HR := Lib.hid hroot
            have HX := Lib.hid (HBY.out 0 (by rw [HIT.out.1]; omega) (by rw [HML.out]; omega))
            obtain ⟨u, hu⟩ : ∃ u, u = vals2[0]'(by rw [HIT.out.1]; omega) := ⟨_, rfl⟩
            rw [← hu] at hc2 HX
            clear hw2 hroot hu
            go_wp2_with fail
            go_ret
            exact ⟨u, rfl, by rw [HR.out]; exact HX.out.at_, HKP.out⟩
          · have hs2 : 2 ≤ sz := by omega
            have e0 : ((sz : Int) == 0) = false := by rw [beq_eq_false_iff_ne]; omega
            have e1 : ((sz : Int) == 1) = false := by rw [beq_eq_false_iff_ne]; omega
            obtain ⟨wo, rfl⟩ : ∃ wo : World, wo = wr := ⟨_, rfl⟩
            clear hs0 hs1
            go_wp2_with fail
            go_loopw [8, 9] (fun rv pv wx => ∃ (rp wp : Nat) (vals : List Value), rp ≤ sz ∧ rv = .int .i64 rp ∧ pv = .int .i64 wp ∧ wp = (rp + 1) / 2 ∧ (rp % 2 = 0 ∨ rp = sz) ∧ Items wx w.heap.size w.heap.size bd i vals ∧ (∀ k (h : k < vals.length) (h2 : k < (lvl innerS (M.take rp)).length), Byp wx (Two w.heap.size bd) vals[k] (lvl innerS (M.take rp))[k]) ∧ (∀ k (h : k < vals.length) (h2 : k < M.length), rp ≤ k → Byp wx (Two w.heap.size bd) vals[k] M[k]) ∧ (∃ bs, Dg wx bd bs) ∧ Keep w wx) (fun rv _ _ => sz - (intOf rv).toNat)
            case atStart => exact ⟨0, 0, vals2, Nat.zero_le _, rfl, rfl, rfl, .inl rfl, HIT.out, fun k _ h2 => absurd h2 (by simp [lvl]), fun k h h2 _ => HBY.out k h h2, HDG.out, HKP.out⟩
            case round =>
              clear HIT HBY HDG HKP
              obtain ⟨rp, wp, vals, hrp, rfl, rfl, hwp, hpar, hit, hb1, hb2, hdg, hkp⟩ := hrel
              have HIT := Lib.hid hit
              have HB1 := Lib.hid hb1
              have HB2 := Lib.hid hb2
              have HDG := Lib.hid hdg
              have HKP := Lib.hid hkp
              have HWP := Lib.hid hwp
              have hwr : wp ≤ rp := by omega
              have hvl : vals.length = i := hit.1
              clear hit hb1 hb2 hdg hkp
              by_cases hlt : rp < sz
              · have hev : rp % 2 = 0 := by omega
                have hci := HIT.out.2.cell_ rp (by omega)
                have hcr := hci.1
                obtain ⟨u1, hu1⟩ : ∃ u, u = vals[rp]'(by omega) := ⟨_, rfl⟩
                have hx1 := HB2.out rp (by omega) (by rw [HML.out]; omega) (Nat.le_refl _)
                rw [← hu1] at hcr hx1
                have HX1 := Lib.hid hx1
                have hll := lvl_length innerS (M.take rp)
                rw [List.length_take, HML.out, show min rp sz = rp by omega, ← hwp] at hll
                have HLL := Lib.hid hll
                have hlx : w.heap.size < wr.heap.size := (HIT.out.2.lt _ rfl).2
                have HVL := Lib.hid hvl
                clear hci hx1 hu1 hll hvl hwp hpar
                by_cases hl2 : rp + 1 < sz
                · have hev1 : rp + 1 < i := by omega
                  have hcj := HIT.out.2.cell_ (rp + 1) (by rw [HVL.out]; omega)
                  have hcr2 := hcj.1
                  obtain ⟨u2, hu2⟩ : ∃ u, u = vals[rp + 1]'(by rw [HVL.out]; omega) := ⟨_, rfl⟩
                  have hx2 := HB2.out (rp + 1) (by rw [HVL.out]; omega) (by rw [HML.out]; omega) (by omega)
                  rw [← hu2] at hcr2 hx2
                  have HX2 := Lib.hid hx2
                  have he := lvl_take innerS M rp hev (by rw [HML.out]; omega)
                  have hp32 : (M[rp]'(by rw [HML.out]; omega)).length = 32 := HLN.out _ (List.getElem_mem _)
                  have hq32 : (M[rp + 1]'(by rw [HML.out]; omega)).length = 32 := HLN.out _ (List.getElem_mem _)
                  obtain ⟨P, hP⟩ : ∃ P, P = M[rp]'(by rw [HML.out]; omega) := ⟨_, rfl⟩
                  obtain ⟨Q, hQ⟩ : ∃ Q, Q = M[rp + 1]'(by rw [HML.out]; omega) := ⟨_, rfl⟩
                  rw [← hP] at he hp32 HX1
                  rw [← hQ] at he hq32 HX2
                  have HE := Lib.hid he
                  have HP32 := Lib.hid hp32
                  have HQ32 := Lib.hid hq32
                  have hw1 : IntKind.i64.wrap ((rp : Int) + 1) = (rp : Int) + 1 := wrap64r _ (by omega) (by omega)
                  have ha1 : (0 : Int) ≤ (rp : Int) := by omega
                  have ha2 : (rp : Int) < (i : Int) := by omega
                  have ha3 : (0 : Int) ≤ (rp : Int) + 1 := by omega
                  have ha4 : (rp : Int) + 1 < (i : Int) := by omega
                  have ha5 : (0 : Int) ≤ (wp : Int) := by omega
                  have ha6 : (wp : Int) < (i : Int) := by omega
                  replace hcr2 : wr.cell? ⟨w.heap.size, rp + 1, none⟩ = some u2 := hcr2
                  have HBW : Hid (bd < wr.heap.size) := Lib.hid (by obtain ⟨bs, h⟩ := HDG.out; exact h.lt)
                  clear hcj hx2 hu2 he hp32 hq32 hP hQ
                  go_wp2_with fail
                  go_region_with (first
                    | (go_at_call 123
                       refine (innerHashOpt_any bd u1 u2 P Q _ (by obtain ⟨bs, h⟩ := HDG.out; exact ⟨bs, h.kp (Kp.refl (fun _ => False) wr).drew (fun x => x)⟩) ((HX1.out.later (Kp.refl _ wr).drew).bys) ((HX2.out.later (Kp.refl _ wr).drew).bys) (HKT.out.keep HKP.out.drew (fun x => x)) (by rw [HP32.out]; omega) (by rw [HQ32.out]; omega)).mono ?_
                       rintro e w3 ⟨v3, rfl, ho3, hd3, hk3⟩
                       have HO3 := Lib.hid ho3
                       have HD3 := Lib.hid hd3
                       have HK3 : Hid (Kp (fun j => j = bd) wr w3) := Lib.hid ((Kp.refl _ wr).drew.trans hk3)
                       have hI3 := HIT.out.keep HK3.out (by omega)
                       have HI3 := Lib.hid hI3
                       have hw3 := hI3.2.cell_ wp (by rw [HVL.out]; omega)
                       have hc3 := hw3.1
                       have hf3 := hw3.2
                       have hl3 : w.heap.size < w3.heap.size := Nat.lt_of_lt_of_le hlx HK3.out.size
                       obtain ⟨A3, c3, rfl, -, -, -, -⟩ := ho3.form
                       clear ho3 hd3 hk3 hI3 hw3))
                  all_goals
                    go_wp2_with fail
                    go_roundw
                    case rel =>
                      have hk5 : Kp (Two w.heap.size bd) w3 (w3.setCell ⟨w.heap.size, wp, none⟩ (.slice A3 (innerS P Q).length c3)) := Kp.setCell (Kp.refl _ _) (fun _ => .inl rfl) _
                      have hk3' : Kp (Two w.heap.size bd) wr w3 := HK3.out.mono fun _ _ e => .inr e
                      have hwp := HWP.out
                      refine ⟨rp + 2, wp + 1, vals.set wp (.slice A3 (innerS P Q).length c3), by omega, by go_num, by go_num, by omega, .inl (by omega), ?_, ?_, ?_, ?_, ?_⟩
                      · exact HI3.out.set_ wp _
                      · intro k hk hk2
                        have hk2' : k < (lvl innerS (M.take rp) ++ [innerS P Q]).length := by rw [← HE.out]; exact hk2
                        have e3 : (lvl innerS (M.take (rp + 2)))[k] = (lvl innerS (M.take rp) ++ [innerS P Q])[k]'hk2' := by simp only [HE.out]
                        rw [e3]
                        have hll := HLL.out
                        by_cases hkw : k = wp
                        · subst hkw
                          have e4 : (lvl innerS (M.take rp) ++ [innerS P Q])[k]'hk2' = innerS P Q := by
                            rw [List.getElem_append_right (by omega)]; simp
                          rw [e4, List.getElem_set_self]
                          have h6 := ((HO3.out.byp (f := u8v) (fun _ => rfl)).mono (T := Two w.heap.size bd) (fun m _ e => by have := HBW.out; rcases e with rfl | rfl; exact hlx; exact this)).later hk5
                          rw [List.length_map] at h6
                          exact h6
                        · have hkl : k < (lvl innerS (M.take rp)).length := by simp at hk2'; omega
                          rw [List.getElem_append_left hkl, List.getElem_set_ne (by omega)]
                          exact ((HB1.out k (by simpa using hk) hkl).later hk3').later hk5
                      · intro k hk hk2 hk3x
                        rw [List.getElem_set_ne (by omega)]
                        exact ((HB2.out k (by simpa using hk) hk2 (by omega)).later hk3').later hk5
                      · obtain ⟨bs, h⟩ := HD3.out
                        exact ⟨bs, h.kp (S := fun j => j = w.heap.size) (Kp.setCell (S := fun j => j = w.heap.size) (Kp.refl _ _) (fun _ => rfl) _) (by omega)⟩
                      · exact (HKP.out.trans' HK3.out (fun j hj e => by subst e; omega)).setCell (fun h => absurd h (Nat.lt_irrefl _)) _
                    case measure => simp [intOf]; omega
                · have hsz' : rp + 1 = sz := by omega
                  have he := lvl_last innerS M rp hev (by rw [HML.out]; exact hsz')
                  have hfull : M.take (rp + 1) = M := List.take_of_length_le (by rw [HML.out]; omega)
                  obtain ⟨P, hP⟩ : ∃ P, P = M[rp]'(by rw [HML.out]; omega) := ⟨_, rfl⟩
                  rw [← hP] at he HX1
                  rw [← hfull] at he
                  conv at he => rhs; rw [hfull]
                  have HE : Hid (lvl innerS (M.take (rp + 1)) = lvl innerS (M.take rp) ++ [P]) := Lib.hid he
                  have hwi := HIT.out.2.cell_ wp (by rw [HVL.out]; omega)
                  have hcw := hwi.1
                  have hfw := hwi.2
                  clear he hfull hP hwi
                  obtain ⟨A3, c3, rfl, -, -, -, -⟩ := HX1.out.at_
                  go_wp2_with fail
                  go_roundw
                  case rel =>
                    have hk5 : Kp (Two w.heap.size bd) wr (wr.setCell ⟨w.heap.size, wp, none⟩ (.slice A3 P.length c3)) := Kp.setCell (Kp.refl _ _) (fun _ => .inl rfl) _
                    have hwp := HWP.out
                    refine ⟨rp + 1, wp + 1, vals.set wp (.slice A3 P.length c3), by omega, by go_num, by go_num, by omega, .inr hsz', HIT.out.set_ wp _, ?_, ?_, ?_, ?_⟩
                    · intro k hk hk2
                      have hk2' : k < (lvl innerS (M.take rp) ++ [P]).length := by rw [← HE.out]; exact hk2
                      have e3 : (lvl innerS (M.take (rp + 1)))[k] = (lvl innerS (M.take rp) ++ [P])[k]'hk2' := by simp only [HE.out]
                      rw [e3]
                      have hll := HLL.out
                      by_cases hkw : k = wp
                      · subst hkw
                        have e4 : (lvl innerS (M.take rp) ++ [P])[k]'hk2' = P := by
                          rw [List.getElem_append_right (by omega)]; simp
                        rw [e4, List.getElem_set_self]
                        exact HX1.out.later hk5
                      · have hkl : k < (lvl innerS (M.take rp)).length := by simp at hk2'; omega
                        rw [List.getElem_append_left hkl, List.getElem_set_ne (by omega)]
                        exact (HB1.out k (by simpa using hk) hkl).later hk5
                    · intro k hk hk2 hk3x
                      have := HML.out
                      omega
                    · obtain ⟨bs, h⟩ := HDG.out
                      exact ⟨bs, h.kp (S := fun j => j = w.heap.size) (Kp.setCell (S := fun j => j = w.heap.size) (Kp.refl _ _) (fun _ => rfl) _) (by omega)⟩
                    · exact HKP.out.setCell (fun h => absurd h (Nat.lt_irrefl _)) _
                  case measure => simp [intOf]; omega
              · obtain rfl : rp = sz := by omega
                have hfull : M.take rp = M := List.take_of_length_le (by rw [HML.out]; exact Nat.le_refl _)
                have HB1' : Hid (∀ k (h : k < vals.length) (h2 : k < (lvl innerS M).length), Byp wr (Two w.heap.size bd) vals[k] (lvl innerS M)[k]) := Lib.hid fun k h h2 => by
                  have h3 : k < (lvl innerS (M.take rp)).length := by rw [hfull]; exact h2
                  have h4 := HB1.out k h h3
                  have e4 : (lvl innerS (M.take rp))[k]'h3 = (lvl innerS M)[k] := by simp only [hfull]
                  rw [e4] at h4
                  exact h4
                clear hfull HB1 HB2 hwp hpar
                go_wp2_with fail
                go_roundw
                case rel =>
                  have hwp := HWP.out
                  refine ⟨wp, lvl innerS M, vals, by omega, rfl, by rw [lvl_length, HML.out]; exact hwp.symm, HIT.out, HB1'.out, ?_, lvl_all innerS (fun x => x.length = 32) (fun x y => sha_length _) M HLN.out, HDG.out, HKP.out⟩
                  rw [tree_lvl innerS (sha []) M.length M (Nat.le_refl _)]
                  exact HTR.out
                case measure => have hwp := HWP.out; simp [intOf]; omega
end Go.Proofs.YtfodkjpjejoemaaDoor
