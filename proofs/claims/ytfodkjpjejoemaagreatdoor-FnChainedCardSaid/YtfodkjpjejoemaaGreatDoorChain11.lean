
/-
  Chains: an operator run on a value.
  Conditions: the operator's proof leads to its root; SHA-256's table holds its numbers.
-/
import Derived.Test.YtfodkjpjejoemaaGreatDoorChain9
import Derived.Test.YtfodkjpjejoemaaGreatDoorChain10
import Derived.Test.YtfodkjpjejoemaaGreatDoorZk
import Derived.Deep.DeepCutAuto
namespace Go.Proofs.YtfodkjpjejoemaaGreatDoor
open Go Go.RowKit
attribute [local go_sem ↓] Go.wp_at_zero Go.wp_at_succ

/-- what running an operator answers -/
def EndsR (w : World) (r : Option (List UInt8)) (e : Ending) : Prop :=
  match r with
  | some y => ∃ av, e = .returned (.tuple #[av, .nilIface]) ∧ Mat w av [y]
  | none => ∃ t x, e = .returned (.tuple #[.slice none 0 0, .iface t x])
def runO (o : Opn) (v : List UInt8) : Option (List UInt8) := if leafS (pairS o.key v) == o.prf.leaf then some o.root else none

theorem climb_idx {p : Prf} {r : List UInt8} (h : climbP p = some r) : 0 ≤ p.index ∧ p.index < p.total := by
  unfold climbP at h
  split at h
  · assumption
  · cases h
theorem valid_32 {p : Prf} (h : valid p = true) : p.leaf.length = 32 ∧ ∀ a ∈ p.aunts, a.length = 32 := by
  unfold valid at h
  simp only [Bool.and_eq_true, decide_eq_true_eq, List.all_eq_true] at h
  exact ⟨h.1.1.2, h.2⟩
theorem newHash2_any (w : World) :
    Calls Tryz.prog 41 #[] w fun e w' => ∃ b, e = .returned (.iface 119 (.pointer (some ⟨b, 0, none⟩))) ∧ w.heap.size ≤ b ∧ Dg w' b [] ∧ Keep w w' := newHash_any w

set_option maxRecDepth 100000 in
set_option maxHeartbeats 4000000 in
theorem run_any (kv av : Value) (q : Nat) (o : Opn) (v : List UInt8) (w : World) (hk : Byts w kv o.key) (hp : PrfAt w q o.prf) (ha : Mat w av [v]) (hvl : v.length ≤ 4294960000) (hok : OpnOk o) (hK : KTab w) :
    Calls Tryz.prog 122 #[.agg #[kv, .pointer (some ⟨q, 0, none⟩)], av] w fun e w' => EndsR w' (runO o v) e ∧ Keep w w' := by
  have HK := Lib.hid hk
  have HP := Lib.hid hp
  have HOK := Lib.hid hok
  have HT := Lib.hid hK
  obtain ⟨Ak, ck, rfl, k1, k2, -, -⟩ := hk
  obtain ⟨n, hn⟩ : ∃ n, n = o.key.length := ⟨_, rfl⟩
  have HN := Lib.hid hn
  rw [← hn] at HK k1 ⊢
  unfold maxLen at k2
  obtain ⟨A, c, rfl, a1, a2, -, a4⟩ := ha
  obtain ⟨g, off, rfl, hcell⟩ := a4 (by simp)
  obtain ⟨u, hu, hur⟩ := hcell 0 (by simp)
  replace hur : Byts w u v := hur
  rw [Nat.add_zero] at hu
  have HV := Lib.hid hur
  obtain ⟨Av, cv, rfl, -, -, -, -⟩ := hur
  obtain ⟨nv, hnv⟩ : ∃ nv, nv = v.length := ⟨_, rfl⟩
  have HNV := Lib.hid hnv
  rw [← hnv] at hu HV
  simp only [List.length_singleton] at a1 ⊢
  unfold maxLen at a2
  obtain ⟨b0, hb0⟩ : ∃ b, b = w.heap.size := ⟨_, rfl⟩
  obtain ⟨w1, hw1⟩ : ∃ w1, w1 = w.alloc (.cells #[.slice Ak n ck, .pointer (some ⟨q, 0, none⟩)] 57) := ⟨_, rfl⟩
  have hk1 : Keep w w1 := by rw [hw1]; exact (Kp.refl _ _).alloc _
  have z0 : w1.cell? ⟨b0, 0, none⟩ = some (.slice Ak n ck) := by rw [hw1, hb0]; simp
  have z1 : w1.cell? ⟨b0, 1, none⟩ = some (.pointer (some ⟨q, 0, none⟩)) := by rw [hw1, hb0]; simp
  have hu1 := hk1.cell_of hu (fun x => x)
  have HW1 := Lib.hid hw1
  have HB0 := Lib.hid hb0
  have HK1 := Lib.hid hk1
  have q1 := m_reset
  have q2 := m_write
  have q3 := m_sum
  have q4 := m_nil
  obtain ⟨lf, hlf⟩ : ∃ lf, lf = (leafS (pairS o.key v) == o.prf.leaf) := ⟨_, rfl⟩
  have HLF := Lib.hid hlf
  have hgw := World.block_lt_of_cell? w _ hu
  simp only at hgw
  clear hok hK hn hnv hw1 hb0 hk1 hcell a4 hlf hp
  go_enter Tryz.func122, Tryz.ntmps122
  cases lf with
  | false =>
    go_wp2_with (first
      | (go_at_call 41
         rw [← HB0.out, ← HW1.out]
         refine (newHash2_any _).mono ?_
         rintro e w2 ⟨bd, rfl, hb2, hd2, hk2⟩
         have HD2 := Lib.hid hd2
         have HK2 := Lib.hid hk2
         have HBD := Lib.hid hb2
         have hs2 := HK1.out.size
         have hu2 := hk2.cell_of hu1 (fun x => x)
         have y0 := hk2.cell_of z0 (fun x => x)
         have y1 := hk2.cell_of z1 (fun x => x)
         clear hd2 hk2 hb2)
      | (go_at_call 84
         refine (write_any [] v bd _ _ HD2.out (fun wx kx => HV.out.keep ((HK1.out.trans HK2.out).trans' kx fun i hi e => by subst e; have := HBD.out; omega)) (HT.out.keep (HK1.out.trans HK2.out) (fun x => x)) (by simp; omega)).mono ?_
         rintro e w3 ⟨rfl, hd3, hk3⟩
         have hk13 : Keep w1 w3 := HK2.out.trans' hk3 fun i hi e => by subst e; have := HBD.out; omega
         have HD3 : Hid (Dg w3 bd v) := Lib.hid hd3
         have HK13 := Lib.hid hk13
         clear hd3 hk3 hk13)
      | (go_at_call 85
         refine (dSum_any v bd _ HD3.out (HT.out.keep (HK1.out.trans HK13.out) (fun x => x)) (by omega)).mono ?_
         rintro e w4 ⟨v4, rfl, ho4, hk4⟩
         have HB4 := Lib.hid (show Byts w4 v4 (sha v) from ho4.slc_map u8v (fun _ _ => rfl))
         have hk14 : Keep w1 w4 := HK13.out.trans hk4
         have HK14 := Lib.hid hk14
         have x0 := hk14.cell_of z0 (fun x => x)
         have x1 := hk14.cell_of z1 (fun x => x)
         have hs4 : b0 < w4.heap.size := World.block_lt_of_cell? w4 _ x0
         obtain ⟨A4, c4, rfl, -, -, -, -⟩ := ho4.form
         obtain ⟨n4, hn4⟩ : ∃ n4, n4 = ((sha v).map u8v).length := ⟨_, rfl⟩
         have HN4 := Lib.hid (show n4 = 32 by rw [hn4, List.length_map]; exact sha_length v)
         rw [← hn4] at HB4 ⊢
         clear ho4 hk4 hn4 hk14)
      | (go_at_call 123
         first
         | (refine (encode_any B B (uvar n ++ o.key) (sha v) _ _ HI5.out HS5.out (HS4.out.kp HKB5.out (fun i hi e => by omega)) (by rw [sha_length]; omega) (by rw [sha_length]; omega) (by have h7 := HOK.out.kl; have h8 := HN.out; have := uvar_ten n (by omega); simp only [List.length_append]; omega)).mono ?_
            rintro e w6 ⟨rfl, hi6, hk6⟩
            have HI6 : Hid (IsBuf B B (pairS o.key v) w6) := Lib.hid (by unfold pairS; rw [← HN.out]; exact hi6)
            have HKB6 := Lib.hid (HKB5.out.trans hk6)
            clear hi6 hk6)
         | (obtain ⟨B, hB⟩ : ∃ B, B = w4.heap.size := ⟨_, rfl⟩
            obtain ⟨wb, hwb⟩ : ∃ wb, wb = w4.alloc (.cells #[.slice none 0 0, .int .i64 0, .int .i8 0] 214) := ⟨_, rfl⟩
            have hkb : Keep w4 wb := by rw [hwb]; exact (Kp.refl _ _).alloc _
            have hib : IsBuf B B [] wb := by rw [hwb, hB]; exact Lib.fresh_isBuffer _ _ _
            have HSB := Lib.hid (show B ≤ wb.heap.size by rw [hwb, hB]; simp)
            have HS4 := Lib.hid ((BufSrc.of_byts HB4.out (by rw [sha_length]; omega) (show w4.heap.size ≤ B by omega)).kp hkb (fun i hi e => e))
            have HSK := Lib.hid ((BufSrc.of_byts (HK.out.keep (HK1.out.trans HK14.out)) HOK.out.k0 (show w4.heap.size ≤ B by omega)).kp hkb (fun i hi e => e))
            have HKb := Lib.hid hkb
            have HBB := Lib.hid hB
            rw [← hwb, ← hB]
            have hb0B : b0 < B := by omega
            have xb0 := hkb.cell_of x0 (fun x => x)
            have xb1 := hkb.cell_of x1 (fun x => x)
            refine (encode_any B B [] o.key _ _ hib HSB.out HSK.out (by have := HOK.out.kl; omega) HOK.out.k0 (by simp)).mono ?_
            rintro e w5 ⟨rfl, hi5, hk5⟩
            have HI5 : Hid (IsBuf B B (uvar n ++ o.key) w5) := Lib.hid (by rw [HN.out]; exact hi5)
            have HKB5 := Lib.hid hk5
            have HS5 := Lib.hid (Nat.le_trans HSB.out hk5.size)
            clear hi5 hk5 hB hwb hkb hib))
      | (go_at_call 125
         refine (Tryz.Buffer_Bytes B B _ _ HI6.out).mono ?_
         rintro e w7 ⟨v7, rfl, ho7, N7, hw7⟩
         have hk67 : Keep w6 w7 := by rw [hw7]; exact (Kp.refl _ _).drewN _
         have ho7' : Own w7 B 5 v7 ((pairS o.key v).map u8v) := ho7
         have HB7 := Lib.hid (show Byts w7 v7 (pairS o.key v) from ho7'.slc_map u8v (fun _ _ => rfl))
         have hk17 : Keep w1 w7 := (HK14.out.trans HKb.out).trans' (HKB6.out.trans hk67.keep) (fun i hi e => by replace e : B ≤ i := e; have := HK14.out.size; have := HBB.out; omega)
         have HK17 := Lib.hid hk17
         obtain ⟨A7, c7, rfl, -, -, -, -⟩ := ho7'.form
         obtain ⟨n7, hn7⟩ : ∃ n7, n7 = ((pairS o.key v).map u8v).length := ⟨_, rfl⟩
         rw [← hn7] at HB7 ⊢
         clear ho7 ho7' hw7 hk67 hk17 hn7)
      | (go_at_call 124
         refine (leafHash_any _ (pairS o.key v) _ HB7.out (HT.out.keep (HK1.out.trans HK17.out) (fun x => x)) (by have := pairS_length o.key v (by have := HOK.out.kl; omega); have := HOK.out.kl; omega)).mono ?_
         rintro e w8 ⟨v8, rfl, hb8, hk8⟩
         have HB8 := Lib.hid hb8.byts
         have hk18 : Keep w1 w8 := HK17.out.trans hk8
         have hk08 : Keep w w8 := HK1.out.trans hk18
         have HK18 := Lib.hid hk18
         have HK08 := Lib.hid hk08
         have t1 := hk18.cell_of z1 (fun x => x)
         obtain ⟨lv, pav, p0, p1, p2, p3, hlv, hpa, hpb⟩ := HP.out.keep hk08
         have HLV := Lib.hid hlv
         have HPA := Lib.hid hpa
         have HPB := Lib.hid hpb
         obtain ⟨g8, o8, c8, rfl, -, -⟩ := hb8
         obtain ⟨Al, cl, rfl, -, -, -, -⟩ := hlv
         obtain ⟨Ap, cp, rfl, -, -, -, -⟩ := hpa
         obtain ⟨n8, hn8⟩ : ∃ n8, n8 = (leafS (pairS o.key v)).length := ⟨_, rfl⟩
         rw [← hn8] at HB8 ⊢
         clear hk8 hk18 hk08 hn8 hpb)
      | (go_at_call 74
         refine (bytesEqual_any _ _ (leafS (pairS o.key v)) o.prf.leaf _ HB8.out HLV.out).mono ?_
         rintro e w9 ⟨rfl, rfl⟩
         rw [← HLF.out])
      | (go_at_call 57; refine (errNew2_any _ _).mono ?_; rintro e w9 ⟨⟨x, rfl⟩, hk9⟩))
    go_ret2
    refine ⟨?_, HK08.out.trans hk9⟩
    unfold runO
    rw [← HLF.out]
    exact ⟨_, _, rfl⟩
  | true =>
    go_upto_region 13 with (first
      | (go_at_call 41
         rw [← HB0.out, ← HW1.out]
         refine (newHash2_any _).mono ?_
         rintro e w2 ⟨bd, rfl, hb2, hd2, hk2⟩
         have HD2 := Lib.hid hd2
         have HK2 := Lib.hid hk2
         have HBD := Lib.hid hb2
         have hs2 := HK1.out.size
         have hu2 := hk2.cell_of hu1 (fun x => x)
         have y0 := hk2.cell_of z0 (fun x => x)
         have y1 := hk2.cell_of z1 (fun x => x)
         clear hd2 hk2 hb2)
      | (go_at_call 84
         refine (write_any [] v bd _ _ HD2.out (fun wx kx => HV.out.keep ((HK1.out.trans HK2.out).trans' kx fun i hi e => by subst e; have := HBD.out; omega)) (HT.out.keep (HK1.out.trans HK2.out) (fun x => x)) (by simp; omega)).mono ?_
         rintro e w3 ⟨rfl, hd3, hk3⟩
         have hk13 : Keep w1 w3 := HK2.out.trans' hk3 fun i hi e => by subst e; have := HBD.out; omega
         have HD3 : Hid (Dg w3 bd v) := Lib.hid hd3
         have HK13 := Lib.hid hk13
         clear hd3 hk3 hk13)
      | (go_at_call 85
         refine (dSum_any v bd _ HD3.out (HT.out.keep (HK1.out.trans HK13.out) (fun x => x)) (by omega)).mono ?_
         rintro e w4 ⟨v4, rfl, ho4, hk4⟩
         have HB4 := Lib.hid (show Byts w4 v4 (sha v) from ho4.slc_map u8v (fun _ _ => rfl))
         have hk14 : Keep w1 w4 := HK13.out.trans hk4
         have HK14 := Lib.hid hk14
         have x0 := hk14.cell_of z0 (fun x => x)
         have x1 := hk14.cell_of z1 (fun x => x)
         have hs4 : b0 < w4.heap.size := World.block_lt_of_cell? w4 _ x0
         obtain ⟨A4, c4, rfl, -, -, -, -⟩ := ho4.form
         obtain ⟨n4, hn4⟩ : ∃ n4, n4 = ((sha v).map u8v).length := ⟨_, rfl⟩
         have HN4 := Lib.hid (show n4 = 32 by rw [hn4, List.length_map]; exact sha_length v)
         rw [← hn4] at HB4 ⊢
         clear ho4 hk4 hn4 hk14)
      | (go_at_call 123
         first
         | (refine (encode_any B B (uvar n ++ o.key) (sha v) _ _ HI5.out HS5.out (HS4.out.kp HKB5.out (fun i hi e => by omega)) (by rw [sha_length]; omega) (by rw [sha_length]; omega) (by have h7 := HOK.out.kl; have h8 := HN.out; have := uvar_ten n (by omega); simp only [List.length_append]; omega)).mono ?_
            rintro e w6 ⟨rfl, hi6, hk6⟩
            have HI6 : Hid (IsBuf B B (pairS o.key v) w6) := Lib.hid (by unfold pairS; rw [← HN.out]; exact hi6)
            have HKB6 := Lib.hid (HKB5.out.trans hk6)
            clear hi6 hk6)
         | (obtain ⟨B, hB⟩ : ∃ B, B = w4.heap.size := ⟨_, rfl⟩
            obtain ⟨wb, hwb⟩ : ∃ wb, wb = w4.alloc (.cells #[.slice none 0 0, .int .i64 0, .int .i8 0] 214) := ⟨_, rfl⟩
            have hkb : Keep w4 wb := by rw [hwb]; exact (Kp.refl _ _).alloc _
            have hib : IsBuf B B [] wb := by rw [hwb, hB]; exact Lib.fresh_isBuffer _ _ _
            have HSB := Lib.hid (show B ≤ wb.heap.size by rw [hwb, hB]; simp)
            have HS4 := Lib.hid ((BufSrc.of_byts HB4.out (by rw [sha_length]; omega) (show w4.heap.size ≤ B by omega)).kp hkb (fun i hi e => e))
            have HSK := Lib.hid ((BufSrc.of_byts (HK.out.keep (HK1.out.trans HK14.out)) HOK.out.k0 (show w4.heap.size ≤ B by omega)).kp hkb (fun i hi e => e))
            have HKb := Lib.hid hkb
            have HBB := Lib.hid hB
            rw [← hwb, ← hB]
            have hb0B : b0 < B := by omega
            have xb0 := hkb.cell_of x0 (fun x => x)
            have xb1 := hkb.cell_of x1 (fun x => x)
            refine (encode_any B B [] o.key _ _ hib HSB.out HSK.out (by have := HOK.out.kl; omega) HOK.out.k0 (by simp)).mono ?_
            rintro e w5 ⟨rfl, hi5, hk5⟩
            have HI5 : Hid (IsBuf B B (uvar n ++ o.key) w5) := Lib.hid (by rw [HN.out]; exact hi5)
            have HKB5 := Lib.hid hk5
            have HS5 := Lib.hid (Nat.le_trans HSB.out hk5.size)
            clear hi5 hk5 hB hwb hkb hib))
      | (go_at_call 125
         refine (Tryz.Buffer_Bytes B B _ _ HI6.out).mono ?_
         rintro e w7 ⟨v7, rfl, ho7, N7, hw7⟩
         have hk67 : Keep w6 w7 := by rw [hw7]; exact (Kp.refl _ _).drewN _
         have ho7' : Own w7 B 5 v7 ((pairS o.key v).map u8v) := ho7
         have HB7 := Lib.hid (show Byts w7 v7 (pairS o.key v) from ho7'.slc_map u8v (fun _ _ => rfl))
         have hk17 : Keep w1 w7 := (HK14.out.trans HKb.out).trans' (HKB6.out.trans hk67.keep) (fun i hi e => by replace e : B ≤ i := e; have := HK14.out.size; have := HBB.out; omega)
         have HK17 := Lib.hid hk17
         obtain ⟨A7, c7, rfl, -, -, -, -⟩ := ho7'.form
         obtain ⟨n7, hn7⟩ : ∃ n7, n7 = ((pairS o.key v).map u8v).length := ⟨_, rfl⟩
         rw [← hn7] at HB7 ⊢
         clear ho7 ho7' hw7 hk67 hk17 hn7)
      | (go_at_call 124
         refine (leafHash_any _ (pairS o.key v) _ HB7.out (HT.out.keep (HK1.out.trans HK17.out) (fun x => x)) (by have := pairS_length o.key v (by have := HOK.out.kl; omega); have := HOK.out.kl; omega)).mono ?_
         rintro e w8 ⟨v8, rfl, hb8, hk8⟩
         have HB8 := Lib.hid hb8.byts
         have hk18 : Keep w1 w8 := HK17.out.trans hk8
         have hk08 : Keep w w8 := HK1.out.trans hk18
         have HK18 := Lib.hid hk18
         have HK08 := Lib.hid hk08
         have t1 := hk18.cell_of z1 (fun x => x)
         obtain ⟨lv, pav, p0, p1, p2, p3, hlv, hpa, hpb⟩ := HP.out.keep hk08
         have HLV := Lib.hid hlv
         have HPA := Lib.hid hpa
         have HPB := Lib.hid hpb
         obtain ⟨g8, o8, c8, rfl, -, -⟩ := hb8
         obtain ⟨Al, cl, rfl, -, -, -, -⟩ := hlv
         obtain ⟨Ap, cp, rfl, -, -, -, -⟩ := hpa
         obtain ⟨n8, hn8⟩ : ∃ n8, n8 = (leafS (pairS o.key v)).length := ⟨_, rfl⟩
         rw [← hn8] at HB8 ⊢
         clear hk8 hk18 hk08 hn8 hpb)
      | (go_at_call 74
         refine (bytesEqual_any _ _ (leafS (pairS o.key v)) o.prf.leaf _ HB8.out HLV.out).mono ?_
         rintro e w9 ⟨rfl, rfl⟩
         rw [← HLF.out]))
    obtain ⟨hi0, -⟩ := climb_idx HOK.out.up
    have hz0 : Keep w8 w8.drew := (Kp.refl _ _).drew
    have hql : q < w8.heap.size := World.block_lt_of_cell? w8 _ p0
    go_region_law (first
      | (go_simp; go_at_call 41
         refine (newHash_any _).mono ?_
         rintro e w10 ⟨b2, rfl, hb2, hd2, hk2⟩
         have hk10 : Keep w8 w10 := hz0.trans hk2
         have hbw : w8.heap.size ≤ b2 := hb2
         have r1 := hk10.cell_of t1 (fun x => x))
      | (go_simp; go_at_call 126
         refine (compRoot_any b2 q o.prf _ _ _ ⟨hk10.cell_of p0 (fun x => x), hk10.cell_of p1 (fun x => x), hk10.cell_of p2 (fun x => x), hk10.cell_of p3 (fun x => x)⟩ (by omega) (MatB.of HPA.out hk10 hbw) (fun wx kx => Byts.keep HLV.out (hk10.trans' kx fun i hi e => by subst e; omega)) ⟨_, hd2⟩ (HT.out.keep (HK08.out.trans hk10) (fun x => x)) hi0 HPB.out.2.1 (by have := (valid_32 HOK.out.ok).1; omega) (fun a ha => by have := (valid_32 HOK.out.ok).2 a ha; omega)).mono ?_
         rintro e w11 ⟨he, -, hk11⟩
         rw [HOK.out.up] at he
         obtain ⟨v10, rfl, hv10, -⟩ := he
         have hk811 : Keep w8 w11 := hk10.trans' hk11 fun i hi e => by subst e; omega
         have hb10 : Byts w11 v10 o.root := hv10 _ (Kp.refl _ _)
         have HB10 := Lib.hid hb10
         obtain ⟨A10, c10, rfl, -, -, -, -⟩ := hb10
         obtain ⟨n10, hn10⟩ : ∃ n10, n10 = o.root.length := ⟨_, rfl⟩
         rw [← hn10] at HB10 ⊢
         clear hv10 hn10))
    all_goals
      go_wp2_with fail
      go_ret2
      refine ⟨?_, (HK08.out.trans hk811).alloc _⟩
      unfold runO
      rw [← HLF.out]
      have hka : Keep w11 (w11.alloc (.cells #[.slice A10 n10 c10] 24)) := (Kp.refl _ _).alloc _
      refine ⟨_, rfl, some ⟨w11.heap.size, 0, none⟩, 1, rfl, Nat.le_refl _, by simp [maxLen], (fun e => by cases e), fun _ => ⟨w11.heap.size, 0, rfl, fun i hi => ?_⟩⟩
      obtain rfl : i = 0 := by simpa using hi
      exact ⟨.slice A10 n10 c10, by simp, HB10.out.keep hka⟩
end Go.Proofs.YtfodkjpjejoemaaGreatDoor
