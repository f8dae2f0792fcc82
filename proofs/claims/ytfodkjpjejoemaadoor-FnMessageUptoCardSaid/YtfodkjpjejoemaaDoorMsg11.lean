/-
  FnMessage: the law's own walk.
  Conditions: the argument reads as a proof; its message has at most 2^40 bytes; the package's own error is an error.
-/
import Derived.Test.YtfodkjpjejoemaaDoorMsg10
namespace Go.Proofs.YtfodkjpjejoemaaDoor
open Go Go.RowKit
attribute [local go_sem ↓] Go.wp_at_zero Go.wp_at_succ

set_option maxRecDepth 100000 in
set_option maxHeartbeats 2000000 in
theorem fnMessage_walk (v : Value) (p : Prf) (w : World) (h : PrfV w v p) (hl : p.leaf.length ≤ 4294967296) (ha : ∀ a ∈ p.aunts, a.length ≤ 4294967296) (hn : p.aunts.length ≤ 1000000000) (hm : (msgOf p).length ≤ 1099511626000)
    (t0 : TypeId) (x0 : Value) (hg : w.cell? ⟨0, 0, none⟩ = some (.iface t0 x0)) :
    Calls Tryd.prog 5 #[v] w fun e w' => e = .returned (.bool true) ∧ Keep w w' := by
  obtain ⟨lv, av, rfl, hlv, hav, b1, b2, b3, b4⟩ := h
  obtain ⟨w0, hw0⟩ : ∃ w0, w0 = w.alloc (.cells #[.int .i64 p.total, .int .i64 p.index, lv, av] 25) := ⟨_, rfl⟩
  have hk0 : Keep w w0 := by rw [hw0]; exact (Kp.refl _ _).alloc _
  have HK0 := Lib.hid hk0
  have hp : PrfV w0 (.agg #[.int .i64 p.total, .int .i64 p.index, lv, av]) p := ⟨lv, av, rfl, hlv.keep hk0, hav.keep hk0, b1, b2, b3, b4⟩
  have HP := Lib.hid hp
  have HG := Lib.hid (hk0.cell_of hg (fun x => x))
  have HF := Lib.hid (zzFits2_any _ p _ hp)
  have HW0 := Lib.hid hw0
  have HA := Lib.hid ha
  have HC : Hid (w0.cell? ⟨w.heap.size, 0, none⟩ = some (.int .i64 p.total) ∧ w0.cell? ⟨w.heap.size, 1, none⟩ = some (.int .i64 p.index) ∧ w0.cell? ⟨w.heap.size, 2, none⟩ = some lv ∧ w0.cell? ⟨w.heap.size, 3, none⟩ = some av) := Lib.hid (by rw [hw0]; simp)
  have hbl : w.heap.size < w0.heap.size := by rw [hw0]; simp
  clear hlv hav hp hk0 hg ha hw0
  cases hf : fits2 p
  · have HB := Lib.hid hf
    clear hf
    go_enter Tryd.func5, Tryd.ntmps5
    go_wp2_with (first
      | (go_at_call 12; rw [← HW0.out]; refine HF.out.mono ?_; rintro e w1 ⟨rfl, hk1⟩; rw [HB.out]))
    go_ret
    exact ⟨rfl, HK0.out.trans hk1⟩
  · have HB := Lib.hid hf
    clear hf
    cases hvp : valid p
    · have HVP := Lib.hid hvp
      clear hvp
      go_enter Tryd.func5, Tryd.ntmps5
      go_wp2_with (first
        | (go_at_call 12
           rw [← HW0.out]
           refine HF.out.mono ?_
           rintro e w1 ⟨rfl, hk1⟩
           rw [HB.out]
           have hc0 : w1.cell? ⟨w.heap.size, 0, none⟩ = some (.int .i64 p.total) := hk1.cell_of HC.out.1 (fun x => x)
           have hc1 : w1.cell? ⟨w.heap.size, 1, none⟩ = some (.int .i64 p.index) := hk1.cell_of HC.out.2.1 (fun x => x)
           have hc2 : w1.cell? ⟨w.heap.size, 2, none⟩ = some lv := hk1.cell_of HC.out.2.2.1 (fun x => x)
           have hc3 : w1.cell? ⟨w.heap.size, 3, none⟩ = some av := hk1.cell_of HC.out.2.2.2 (fun x => x)
           have HK1 := Lib.hid hk1
           clear hk1)
        | (go_at_call 19
           refine (implMessage_any _ p _ (HP.out.keep HK1.out) hl HA.out hm).mono ?_
           rintro e w2 ⟨⟨v2, B2, rfl, -, ho2⟩, hk2⟩
           have HO2 : Hid (Byts w2 v2 (msgOf p)) := Lib.hid (ho2.slc_map (R := U8) u8v (fun _ _ => rfl))
           have HK2 := Lib.hid (HK1.out.trans hk2)
           clear ho2 hk2)
        | (go_at_call 20
           refine (readMessage_any v2 p _ HO2.out b1 b2 b3 b4 hl HA.out hn hm t0 x0 (HK2.out.cell_of HG.out (fun x => x))).mono ?_
           rintro e w3 ⟨⟨v3, q, rfl, hv3, hq⟩, hk3⟩
           rw [HVP.out] at hq ⊢
           have HV3 := Lib.hid hv3
           have HQ := Lib.hid hq
           have HK3 := Lib.hid (HK2.out.trans hk3)
           have HO3 : Hid (Byts w3 v2 (msgOf p)) := Lib.hid (Byts.keep HO2.out hk3)
           obtain ⟨lq, aq, rfl, ⟨Aq, dq, rfl, -, -, -, -⟩, ⟨Bq, eq, rfl, -, -, -, -⟩, -⟩ := hv3
           have hd0 : w3.cell? ⟨w.heap.size, 0, none⟩ = some (.int .i64 p.total) := HK3.out.cell_of HC.out.1 (fun x => x)
           have hd1 : w3.cell? ⟨w.heap.size, 1, none⟩ = some (.int .i64 p.index) := HK3.out.cell_of HC.out.2.1 (fun x => x)
           have hd2 : w3.cell? ⟨w.heap.size, 2, none⟩ = some lv := HK3.out.cell_of HC.out.2.2.1 (fun x => x)
           have hd3 : w3.cell? ⟨w.heap.size, 3, none⟩ = some av := HK3.out.cell_of HC.out.2.2.2 (fun x => x)
           have hbl3 : w.heap.size < w3.heap.size := Nat.lt_of_lt_of_le hbl HK3.out.size
           clear hk3 hq))
      generalize hw4 : w3.alloc _ = w4
      have hk4 : Keep w3 w4 := by rw [← hw4]; exact (Kp.refl _ _).alloc _
      have e0 : w4.cell? ⟨w3.heap.size, 0, none⟩ = some (.int .i64 q.total) := by rw [← hw4]; simp
      have e1 : w4.cell? ⟨w3.heap.size, 1, none⟩ = some (.int .i64 q.index) := by rw [← hw4]; simp
      have e2 : w4.cell? ⟨w3.heap.size, 2, none⟩ = some (.slice Aq q.leaf.length dq) := by rw [← hw4]; simp
      have e3 : w4.cell? ⟨w3.heap.size, 3, none⟩ = some (.slice Bq q.aunts.length eq) := by rw [← hw4]; simp
      have g0 := hk4.cell_of hd0 (fun x => x)
      have g1 := hk4.cell_of hd1 (fun x => x)
      have g2 := hk4.cell_of hd2 (fun x => x)
      have g3 := hk4.cell_of hd3 (fun x => x)
      have HK4 := Lib.hid (HK3.out.trans hk4)
      have HP4 := Lib.hid (HP.out.keep HK4.out)
      have HV4 := Lib.hid (HV3.out.keep hk4)
      have HO4 : Hid (Byts w4 v2 (msgOf p)) := Lib.hid (Byts.keep HO3.out hk4)
      clear hw4 hk4 hd0 hd1 hd2 hd3 hc0 hc1 hc2 hc3
      have hz4 : Keep w4 w4.drew := (Kp.refl _ _).drew
      have ll0 : w.heap.size < w4.heap.size := Nat.lt_of_lt_of_le hbl HK4.out.size
      go_region_law (first
          | (go_simp; go_at_call 15; first
             | (refine (lawsOurs_any (.agg #[.int .i64 p.total, .int .i64 p.index, lv, av]) p _ (HP4.out.keep hz4)).mono ?_
                rintro e w5 ⟨rfl, hk5⟩
                have hz5 := hz4.trans hk5)
             | (refine (lawsOurs_any (.agg #[.int .i64 p.total, .int .i64 p.index, lv, av]) p _ (HP4.out.keep hz6)).mono ?_
                rintro e w7 ⟨rfl, hk7⟩
                have hz7 := hz6.trans hk7))
          | (go_simp; go_at_call 21
             refine (specMessage_any _ p _ (HP4.out.keep hz5) hl HA.out hm).mono ?_
             rintro e w6 ⟨⟨v6, B6, rfl, -, ho6⟩, hk6⟩
             have HO6 : Hid (Byts w6 v6 (msgOf p)) := Lib.hid (ho6.slc_map (R := U8) u8v (fun _ _ => rfl))
             have hz6 := hz5.trans hk6
             have k0 := hz6.cell_of g0 (fun x => x)
             have k1 := hz6.cell_of g1 (fun x => x)
             have k2 := hz6.cell_of g2 (fun x => x)
             have k3 := hz6.cell_of g3 (fun x => x)
             clear ho6)
          | (go_simp; go_at_call 18
             refine (same2_any v2 v6 (msgOf p) (msgOf p) _ (Byts.keep HO4.out hz6) HO6.out).mono ?_
             rintro e w7 ⟨rfl, rfl⟩
             rw [show (msgOf p == msgOf p) = true by simp])
          | (go_simp; go_at_call 14; refine (specValid_any _ p _ (HP4.out.keep hz7)).mono ?_; rintro e w8 ⟨rfl, hk8⟩; rw [HVP.out]; have hz8 := hz7.trans hk8))
      all_goals
        go_wp2_with fail
        go_ret
        exact ⟨rfl, (HK0.out.trans HK4.out).trans hz8⟩
    · have HVP := Lib.hid hvp
      clear hvp
      go_enter Tryd.func5, Tryd.ntmps5
      go_wp2_with (first
        | (go_at_call 12
           rw [← HW0.out]
           refine HF.out.mono ?_
           rintro e w1 ⟨rfl, hk1⟩
           rw [HB.out]
           have hc0 : w1.cell? ⟨w.heap.size, 0, none⟩ = some (.int .i64 p.total) := hk1.cell_of HC.out.1 (fun x => x)
           have hc1 : w1.cell? ⟨w.heap.size, 1, none⟩ = some (.int .i64 p.index) := hk1.cell_of HC.out.2.1 (fun x => x)
           have hc2 : w1.cell? ⟨w.heap.size, 2, none⟩ = some lv := hk1.cell_of HC.out.2.2.1 (fun x => x)
           have hc3 : w1.cell? ⟨w.heap.size, 3, none⟩ = some av := hk1.cell_of HC.out.2.2.2 (fun x => x)
           have HK1 := Lib.hid hk1
           clear hk1)
        | (go_at_call 19
           refine (implMessage_any _ p _ (HP.out.keep HK1.out) hl HA.out hm).mono ?_
           rintro e w2 ⟨⟨v2, B2, rfl, -, ho2⟩, hk2⟩
           have HO2 : Hid (Byts w2 v2 (msgOf p)) := Lib.hid (ho2.slc_map (R := U8) u8v (fun _ _ => rfl))
           have HK2 := Lib.hid (HK1.out.trans hk2)
           clear ho2 hk2)
        | (go_at_call 20
           refine (readMessage_any v2 p _ HO2.out b1 b2 b3 b4 hl HA.out hn hm t0 x0 (HK2.out.cell_of HG.out (fun x => x))).mono ?_
           rintro e w3 ⟨⟨v3, q, rfl, hv3, hq⟩, hk3⟩
           rw [HVP.out] at hq ⊢
           have HV3 := Lib.hid hv3
           have HQ := Lib.hid hq
           have HK3 := Lib.hid (HK2.out.trans hk3)
           have HO3 : Hid (Byts w3 v2 (msgOf p)) := Lib.hid (Byts.keep HO2.out hk3)
           obtain ⟨lq, aq, rfl, ⟨Aq, dq, rfl, -, -, -, -⟩, ⟨Bq, eq, rfl, -, -, -, -⟩, -⟩ := hv3
           have hd0 : w3.cell? ⟨w.heap.size, 0, none⟩ = some (.int .i64 p.total) := HK3.out.cell_of HC.out.1 (fun x => x)
           have hd1 : w3.cell? ⟨w.heap.size, 1, none⟩ = some (.int .i64 p.index) := HK3.out.cell_of HC.out.2.1 (fun x => x)
           have hd2 : w3.cell? ⟨w.heap.size, 2, none⟩ = some lv := HK3.out.cell_of HC.out.2.2.1 (fun x => x)
           have hd3 : w3.cell? ⟨w.heap.size, 3, none⟩ = some av := HK3.out.cell_of HC.out.2.2.2 (fun x => x)
           have hbl3 : w.heap.size < w3.heap.size := Nat.lt_of_lt_of_le hbl HK3.out.size
           clear hk3 hq))
      generalize hw4 : w3.alloc _ = w4
      have hk4 : Keep w3 w4 := by rw [← hw4]; exact (Kp.refl _ _).alloc _
      have e0 : w4.cell? ⟨w3.heap.size, 0, none⟩ = some (.int .i64 q.total) := by rw [← hw4]; simp
      have e1 : w4.cell? ⟨w3.heap.size, 1, none⟩ = some (.int .i64 q.index) := by rw [← hw4]; simp
      have e2 : w4.cell? ⟨w3.heap.size, 2, none⟩ = some (.slice Aq q.leaf.length dq) := by rw [← hw4]; simp
      have e3 : w4.cell? ⟨w3.heap.size, 3, none⟩ = some (.slice Bq q.aunts.length eq) := by rw [← hw4]; simp
      have g0 := hk4.cell_of hd0 (fun x => x)
      have g1 := hk4.cell_of hd1 (fun x => x)
      have g2 := hk4.cell_of hd2 (fun x => x)
      have g3 := hk4.cell_of hd3 (fun x => x)
      have HK4 := Lib.hid (HK3.out.trans hk4)
      have HP4 := Lib.hid (HP.out.keep HK4.out)
      have HV4 := Lib.hid (HV3.out.keep hk4)
      have HO4 : Hid (Byts w4 v2 (msgOf p)) := Lib.hid (Byts.keep HO3.out hk4)
      clear hw4 hk4 hd0 hd1 hd2 hd3 hc0 hc1 hc2 hc3
      go_region_held3 (fun w' => Keep w4 w' ∧ w'.cell? ⟨w.heap.size, 0, none⟩ = some (.int .i64 p.total) ∧ w'.cell? ⟨w.heap.size, 1, none⟩ = some (.int .i64 p.index) ∧ w'.cell? ⟨w.heap.size, 2, none⟩ = some lv ∧ w'.cell? ⟨w.heap.size, 3, none⟩ = some av
          ∧ w'.cell? ⟨w3.heap.size, 0, none⟩ = some (.int .i64 q.total) ∧ w'.cell? ⟨w3.heap.size, 1, none⟩ = some (.int .i64 q.index) ∧ w'.cell? ⟨w3.heap.size, 2, none⟩ = some (.slice Aq q.leaf.length dq) ∧ w'.cell? ⟨w3.heap.size, 3, none⟩ = some (.slice Bq q.aunts.length eq))
        (first
          | exact ⟨(Kp.refl _ _).drew, by assumption, by assumption, by assumption, by assumption, by assumption, by assumption, by assumption, by assumption⟩
          | (go_split_ands; exact ⟨Kp.trans (by assumption) (by assumption), Kp.cell_of (by assumption) (by assumption) (fun x => x), Kp.cell_of (by assumption) (by assumption) (fun x => x), Kp.cell_of (by assumption) (by assumption) (fun x => x), Kp.cell_of (by assumption) (by assumption) (fun x => x), Kp.cell_of (by assumption) (by assumption) (fun x => x), Kp.cell_of (by assumption) (by assumption) (fun x => x), Kp.cell_of (by assumption) (by assumption) (fun x => x), Kp.cell_of (by assumption) (by assumption) (fun x => x)⟩)
          | (go_split_ands; exact ⟨by assumption, by assumption, by assumption, by assumption, by assumption, by assumption, by assumption, by assumption, by assumption⟩))
        (first
          | (go_at_call 15; go_split_ands; first
             | (refine (lawsOurs_any (.agg #[.int .i64 p.total, .int .i64 p.index, lv, av]) p _ (HP4.out.keep (by assumption))).mono ?_; rintro e w5 ⟨rfl, hk5⟩)
             | (refine (lawsOurs_any (.agg #[.int .i64 q.total, .int .i64 q.index, .slice Aq q.leaf.length dq, .slice Bq q.aunts.length eq]) q _ (HV4.out.keep (by assumption))).mono ?_; rintro e w9 ⟨rfl, hk9⟩))
          | (go_at_call 21; go_split_ands
             refine (specMessage_any _ p _ (HP4.out.keep (by assumption)) hl HA.out hm).mono ?_
             rintro e w6 ⟨⟨v6, B6, rfl, -, ho6⟩, hk6⟩
             have HO6 : Hid (Byts w6 v6 (msgOf p)) := Lib.hid (ho6.slc_map (R := U8) u8v (fun _ _ => rfl))
             clear ho6)
          | (go_at_call 18; go_split_ands
             refine (same2_any v2 v6 (msgOf p) (msgOf p) _ (Byts.keep HO4.out (by assumption)) HO6.out).mono ?_
             rintro e w7 ⟨rfl, rfl⟩
             rw [show (msgOf p == msgOf p) = true by simp])
          | (go_at_call 14; go_split_ands; refine (specValid_any _ p _ (HP4.out.keep (by assumption))).mono ?_; rintro e w8 ⟨rfl, hk8⟩; rw [HVP.out])
          | (go_at_call 22; go_split_ands
             have hqp : q = p := by first | exact HQ.out rfl | exact HQ.out trivial
             subst hqp
             refine (alike_any _ _ q _ (HV4.out.keep (by assumption)) (HP4.out.keep (by assumption))).mono ?_
             rintro e w10 ⟨rfl, hk10⟩))
      all_goals
        go_split_ands
        go_wp2_with fail
        go_ret
        exact ⟨rfl, (HK0.out.trans HK4.out).trans (by assumption)⟩
end Go.Proofs.YtfodkjpjejoemaaDoor
