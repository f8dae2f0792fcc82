/-
  Proofs of a tree's leaves: the package's list of proofs walked.
  Conditions: the argument reads as a list of slices of bytes; SHA-256's table holds its numbers.
-/
import Derived.Test.YtfodkjpjejoemaaDoorTrail5
namespace Go.Proofs.YtfodkjpjejoemaaDoor
open Go Go.RowKit
attribute [local go_sem ↓] Go.wp_at_zero Go.wp_at_succ

/-- a pointer to a proof -/
def PtrU (w : World) (u : Value) (p : Prf) : Prop := ∃ q, u = ptrV q ∧ PrfAt w q p
def prfs (L : List (List UInt8)) : List Prf := (List.range L.length).map (prfOf L)
theorem leafS_length (x : List UInt8) : (leafS x).length = 32 := by unfold leafS; rw [sha_length]
theorem prfs_length (L : List (List UInt8)) : (prfs L).length = L.length := by unfold prfs; simp
theorem prfs_at (L : List (List UInt8)) (i : Nat) (h : i < (prfs L).length) : (prfs L)[i] = prfOf L i := by simp [prfs]
theorem ptrs_all (qs : List Nat) (k : Nat) : ∀ u ∈ qs.map ptrV ++ List.replicate k (Value.pointer none), ∃ o, u = .pointer o := by
  intro u hu
  rcases List.mem_append.1 hu with h | h
  · obtain ⟨q, _, rfl⟩ := List.mem_map.1 h; exact ⟨_, rfl⟩
  · exact ⟨none, (List.mem_replicate.1 h).2⟩
theorem ptrs_set (qs : List Nat) (n i q : Nat) (h : qs.length = i) (hi : i < n) : (qs.map ptrV ++ List.replicate (n - i) (Value.pointer none)).set i (ptrV q) = (qs ++ [q]).map ptrV ++ List.replicate (n - (i + 1)) (Value.pointer none) := by
  obtain ⟨k, hk⟩ : ∃ k, n - i = k + 1 := ⟨n - i - 1, by omega⟩
  rw [hk, show n - (i + 1) = k by omega, List.set_append_right _ _ (by simp [h])]
  simp [h, List.replicate_succ]
theorem makeP (n : Nat) (h : n ≤ 1099511627777) (w : World) : (Instr.makeSlice 104 (.int .i64 (n : Int)) (.int .i64 (n : Int))).run Tryd.prog w = .ok (.slice (some ⟨w.heap.size, 0, none⟩) n n) (w.alloc (.cells (List.replicate n (.pointer none)).toArray 94)) := by
  obtain ⟨i0, hi, hz0, hz1, hz2⟩ := info_parts (show (Tryd.prog.info? 94).map (fun i => (i.zero, i.size, i.bytes)) = some (some (.pointer none), 1, 8) by kernel_rfl)
  exact run_make_row1 104 94 i0 (.pointer none) Tryd.underlying104 hi hz0 hz1 rfl n n n rfl rfl (by rw [hz2]; omega) (by omega) w

set_option maxRecDepth 100000 in
set_option maxHeartbeats 2000000 in
theorem proofsFrom_any (v : Value) (L : List (List UInt8)) (w : World) (hv : Mat w v L) (hL1 : 1 ≤ L.length) (hK : KTab w) (hL : L.length ≤ 1000000) (hb : ∀ x ∈ L, x.length ≤ 1073741824) :
    Calls Tryd.prog 68 #[v] w fun e w' => ∃ hv pv, e = .returned (.tuple #[hv, pv]) ∧ Byts w' hv (rootS L) ∧ Slc PtrU w' pv (prfs L) ∧ Keep w w' := by
  have HV := Lib.hid hv
  have HK := Lib.hid hK
  have HB := Lib.hid hb
  obtain ⟨A, c, rfl, h1, h2, h3, h4⟩ := hv
  obtain ⟨n, hn⟩ : ∃ n, n = L.length := ⟨_, rfl⟩
  have HN := Lib.hid hn
  rw [← hn] at hL1 hL h1 HV ⊢
  unfold maxLen at h2
  have hmk := makeP n (by omega)
  have e0 : decide ((n : Int) < 0) = false := decide_eq_false (by omega)
  clear hK hb h3 h4 hn
  go_enter Tryd.func68, Tryd.ntmps68
  go_wp2_with fail
  refine (trailsFrom_any _ L w HV.out (by rw [← HN.out]; exact hL1) HK.out (by rw [← HN.out]; exact hL) HB.out).mono ?_
  rintro e w1 ⟨tv, r, bd, lo, rfl, hf1, hbd1, hbd2, hk1⟩
  have HF1 := Lib.hid hf1
  have HK1 := Lib.hid hk1
  obtain ⟨ps, ho, htr, hlo, hr, hnr, hhr⟩ := hf1
  unfold ptrV
  have HO := Lib.hid ho
  have HTR := Lib.hid htr
  have HNR := Lib.hid hnr
  have HHR := Lib.hid hhr
  obtain ⟨d0, -, -, -⟩ := hnr.cells
  have hpl : ps.length = n := by rw [htr.1, HN.out]
  have HPL := Lib.hid hpl
  obtain ⟨At0, ct, rfl, t1, t2, -, t4⟩ := ho.form
  obtain ⟨gt, rfl, hgt, -⟩ := t4 (by rw [List.length_map, hpl]; omega)
  rw [List.length_map, hpl] at t1 HO
  rw [List.length_map, hpl]
  have hgtl := (ho.lt gt rfl).2
  unfold maxLen at t2
  obtain ⟨Ar, cr, rfl, -, -, -, -⟩ := hhr.form
  rw [List.length_map, rootS_length] at HHR d0 HNR
  have hrl := lt_of_block hnr
  clear hk1 ho htr hnr hhr hpl t4
  obtain ⟨P, hP⟩ : ∃ P, P = w1.heap.size := ⟨_, rfl⟩
  have HP := Lib.hid hP
  obtain ⟨wa, hwa⟩ : ∃ wa, wa = w1.alloc (.cells (Array.replicate n (.pointer none)) 94) := ⟨_, rfl⟩
  have hrow0 : wa.heap[P]? = some (.cells (Array.replicate n (.pointer none)) 94 (0, 0)) := by rw [hwa, hP]; exact heap_alloc_new _ _
  have hka : Keep w1 wa := by rw [hwa]; exact (Kp.refl _ _).alloc _
  have HKA := Lib.hid hka
  have HROW0 := Lib.hid hrow0
  go_wp2_with fail
  rw [← hwa, ← hP]
  clear hwa hP hka hrow0
  go_loopw [22] (fun iv wr => ∃ (i : Nat) (qs : List Nat), i ≤ n ∧ iv = .int .i64 i ∧ qs.length = i ∧ wr.heap[P]? = some (.cells (qs.map ptrV ++ List.replicate (n - i) (Value.pointer none)).toArray 94 (0, 0)) ∧ (∀ k (h : k < qs.length), PrfAt wr qs[k] (prfOf L k) ∧ P < qs[k]) ∧ Keep w1 wr) (fun iv _ => n - (intOf iv).toNat)
  case atStart => exact ⟨0, [], Nat.zero_le _, rfl, rfl, by rw [HROW0.out]; simp, fun k h => absurd h (by simp), HKA.out⟩
  case round =>
    obtain ⟨i, qs, hi, rfl, hql, hrow, hel, hkp⟩ := hrel
    have HQL := Lib.hid hql
    have HRW := Lib.hid hrow
    have HEL := Lib.hid hel
    have HKP := Lib.hid hkp
    have hPl := lt_of_block hrow
    have hws := hkp.size
    clear hql hrow hel hkp
    by_cases hlt : i < n
    · have hip : i < ps.length := by rw [HPL.out]; exact hlt
      have hiL : i < L.length := by rw [← HN.out]; exact hlt
      have hc := HO.out.cell_ i (by rw [List.length_map]; exact hip)
      have hcp : wr.cell? ⟨gt, i, none⟩ = some (.pointer (some ⟨ps[i], 0, none⟩)) := by
        have := HKP.out.cell_of hc.1 (fun x => x)
        rw [List.getElem_map] at this
        exact this
      obtain ⟨⟨hvp, xp, xl, xr, np, hhp⟩, g1, g2, hpath⟩ := HTR.out.2 i hip hiL
      obtain ⟨q, hq⟩ : ∃ q, q = ps[i] := ⟨_, rfl⟩
      rw [← hq] at hcp np hpath g1 g2
      obtain ⟨Ap, cp, rfl, -, -, -, -⟩ := hhp.form
      rw [List.length_map, leafS_length] at np hhp
      have NP := Lib.hid np
      have HHP := Lib.hid hhp
      have HPT := Lib.hid hpath
      have hq0 := (np.keep HKP.out).cells.1
      have hql := lt_of_block np
      obtain ⟨e1, f1⟩ : wr.cell? ⟨P, i, none⟩ = some (.pointer none) ∧ wr.frozen? ⟨P, i, none⟩ = false := by
        refine ⟨?_, frozen_of_row _ _ _ _ _ HRW.out⟩
        rw [cell_of_row _ _ _ _ _ _ HRW.out]
        have h9 := HQL.out
        rw [List.getElem?_toArray, List.getElem?_append_right (by simp [h9]), List.getElem?_replicate, if_pos (by rw [List.length_map, h9]; omega)]
      have HQ := Lib.hid hq
      clear hc np hhp hpath hq
      have hpr : Hid (PathTo wr.drew bd lo r q (auntsS L i)) := Lib.hid (HPT.out.keep (HKP.out.drew))
      have hnr : Hid (Node wr.drew r (.slice Ar 32 cr) (.pointer none) (.pointer none) (.pointer none)) := Lib.hid (HNR.out.keep (HKP.out.drew))
      have hau : (auntsS L i).length ≤ 1000000 := by
        have := auntsS_count 20 L i (by rw [← HN.out]; omega)
        omega
      go_wp2_with fail
      go_region_with (first
        | (go_at_call 99
           refine (flatten_any bd lo r q (auntsS L i) _ _ hpr.out hnr.out hau).mono ?_
           rintro e w3 ⟨va, rfl, ha3, hk3⟩
           obtain ⟨Aa, ca, rfl, -, -, -, -⟩ := id ha3
           have HA3 := Lib.hid ha3
           have hk3' : Keep wr w3 := (Kp.refl _ wr).drew.trans hk3
           have HK3 := Lib.hid hk3'
           have hq3 := hk3'.cell_of hq0 (fun x => x)
           have e3 := hk3'.cell_of e1 (fun x => x)
           have f3 := (hk3'.frozen (p := ⟨P, i, none⟩) hPl (fun x => x)).trans f1
           have hP3 : P < w3.heap.size := Nat.lt_of_lt_of_le hPl hk3'.size
           clear ha3 hk3 hk3'))
      all_goals
        go_wp2_with fail
        have hs3 : w1.heap.size ≤ w3.heap.size := (HKP.out.trans HK3.out).size
        obtain ⟨b, hb⟩ : ∃ b, b = w3.heap.size := ⟨_, rfl⟩
        obtain ⟨w4, hw4⟩ : ∃ w4, w4 = w3.setCell ⟨P, i, none⟩ (.pointer (some ⟨b, 0, none⟩)) := ⟨_, rfl⟩
        have hset : Kp (fun j => j = P) w3 w4 := by rw [hw4]; exact (Kp.refl (fun j => j = P) w3).setCell (p := ⟨P, i, none⟩) (fun _ => rfl) _
        obtain ⟨w5, hw5⟩ : ∃ w5, w5 = w4.alloc (.cells #[.int .i64 n, .int .i64 i, .slice Ap 32 cp, .slice Aa (auntsS L i).length ca] 76) := ⟨_, rfl⟩
        have ka : Keep w4 w5 := by rw [hw5]; exact (Kp.refl _ _).alloc _
        have hs4 : w4.heap.size = b := by rw [hw4, hb]; simp [World.setCell]
        have hnew : w5.heap[b]? = some (.cells #[.int .i64 n, .int .i64 i, .slice Ap 32 cp, .slice Aa (auntsS L i).length ca] 76 (0, 0)) := by rw [hw5, ← hs4]; exact heap_alloc_new _ _
        have hbP : P < b := by rw [hb]; exact hP3
        have hrow3 : w3.heap[P]? = some (.cells (qs.map ptrV ++ List.replicate (n - i) (Value.pointer none)).toArray 94 (0, 0)) := (HK3.out.block P hPl (fun x => x)).trans HRW.out
        have hrow5 : w5.heap[P]? = some (.cells ((qs ++ [b]).map ptrV ++ List.replicate (n - (i + 1)) (Value.pointer none)).toArray 94 (0, 0)) := by
          rw [ka.block P (by rw [hs4]; exact hbP) (fun x => x), hw4, heap_setCell_same _ _ _ _ _ _ hrow3, ← ptrs_set qs n i b HQL.out hlt]
          simp [ptrV]
        have hall := ptrs_all qs (n - i)
        have hP5 : w1.heap.size ≤ P := by rw [HP.out]; exact Nat.le_refl _
        have hkf : Keep w1 w5 := ((HKP.out.trans HK3.out).trans' hset (fun j hj e => by omega)).trans ka
        have HKA := Lib.hid ka
        have HSET := Lib.hid hset
        have HB4 := Lib.hid hb
        have HW4 := Lib.hid hw4
        have HW5 := Lib.hid hw5
        have HKF := Lib.hid hkf
        have HR5 := Lib.hid hrow5
        have HR3 := Lib.hid hrow3
        have HNW := Lib.hid hnew
        rw [← hb, ← hw4, ← hw5]
        clear hw4 hw5 hb hset ka hkf hrow5 hrow3 hnew
        go_roundw
        case rel =>
          refine ⟨i + 1, qs ++ [b], hlt, by go_num, by rw [List.length_append, HQL.out]; rfl, HR5.out, ?_, HKF.out⟩
          intro k hk
          by_cases hki : k < qs.length
          · rw [List.getElem_append_left hki]
            obtain ⟨h8, h9⟩ := HEL.out k hki
            exact ⟨((h8.keep HK3.out).off (by omega) HR3.out hall HSET.out).keep HKA.out, h9⟩
          · have hkv : k = i := by rw [List.length_append, HQL.out] at hk; have := HQL.out; simp at hk; omega
            subst hkv
            have e9 : (qs ++ [b])[k]'hk = b := by rw [List.getElem_append_right (by have := HQL.out; omega)]; simp
            rw [e9]
            refine ⟨?_, hbP⟩
            have hlf : L.getD k [] = L[k] := by rw [List.getD_eq_getElem?_getD, List.getElem?_eq_getElem hiL]; rfl
            refine ⟨.slice Ap 32 cp, .slice Aa (auntsS L k).length ca, ?_, ?_, ?_, ?_, ?_, (HA3.out.off HR3.out hall HSET.out).keep HKA.out, ?_⟩
            · rw [cell_of_row _ _ _ _ _ _ HNW.out]; show _ = some (Value.int IntKind.i64 ((L.length : Nat) : Int)); rw [← HN.out]; rfl
            · rw [cell_of_row _ _ _ _ _ _ HNW.out]; rfl
            · rw [cell_of_row _ _ _ _ _ _ HNW.out]; rfl
            · rw [cell_of_row _ _ _ _ _ _ HNW.out]; rfl
            · show Byts w5 _ (leafS (L.getD k []))
              rw [hlf]
              exact HHP.out.byts.keep HKF.out
            · show -9223372036854775808 ≤ ((L.length : Nat) : Int) ∧ ((L.length : Nat) : Int) ≤ 9223372036854775807 ∧ -9223372036854775808 ≤ ((k : Nat) : Int) ∧ ((k : Nat) : Int) ≤ 9223372036854775807
              rw [← HN.out]; omega
        case measure => simp [intOf]; omega
    · have hin : i = n := by omega
      subst hin
      go_wp2_with fail
      go_ret2
      refine ⟨_, _, rfl, (HHR.out.byts).keep HKP.out, ?_, HK1.out.trans HKP.out⟩
      refine ⟨some ⟨P, 0, none⟩, i, by rw [prfs_length, ← HN.out]; rfl, by rw [prfs_length, ← HN.out]; exact Nat.le_refl _, by unfold maxLen; omega, (fun e => by cases e), fun _ => ⟨P, 0, rfl, fun k hk => ?_⟩⟩
      have hk2 : k < qs.length := by rw [prfs_length, ← HN.out] at hk; rw [HQL.out]; exact hk
      refine ⟨ptrV qs[k], ?_, ⟨qs[k], rfl, ?_⟩⟩
      · rw [Nat.zero_add, cell_of_row _ _ _ _ _ _ HRW.out, List.getElem?_toArray, List.getElem?_append_left (by rw [List.length_map]; exact hk2), List.getElem?_map, List.getElem?_eq_getElem hk2]; rfl
      · rw [prfs_at]; exact (HEL.out k hk2).1
end Go.Proofs.YtfodkjpjejoemaaDoor
