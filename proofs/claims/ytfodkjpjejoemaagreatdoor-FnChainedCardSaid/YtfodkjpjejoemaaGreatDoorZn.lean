
/-
  Proofs of a tree's leaves: the package's list of proofs walked.
  Conditions: the argument reads as a list of slices of bytes; SHA-256's table holds its numbers.
-/
import Derived.Test.YtfodkjpjejoemaaGreatDoorZm
import Derived.Test.YtfodkjpjejoemaaGreatDoorZi
namespace Go.Proofs.YtfodkjpjejoemaaGreatDoor
open Go Go.RowKit
attribute [local go_sem ↓] Go.wp_at_zero Go.wp_at_succ

/-- the proof of leaf j -/
def prfOf (L : List (List UInt8)) (j : Nat) : Prf := ⟨(L.length : Nat), (j : Nat), leafS (L.getD j []), auntsS L j⟩

theorem Slc.off {α : Type} {R : World → Value → α → Prop} {w w' : World} {v : Value} {L : List α} {P : Nat} {cs : List Value} {T : TypeId} (h : Slc R w v L) (hb : w.heap[P]? = some (.cells cs.toArray T (0, 0))) (hc : ∀ u ∈ cs, ∀ x, ¬ R w u x) (k : Kp (fun j => j = P) w w')
    (hR : ∀ u x, R w u x → R w' u x) : Slc R w' v L := by
  obtain ⟨A, c, hv, h1, h2, h3, h4⟩ := h
  refine ⟨A, c, hv, h1, h2, h3, fun hn => ?_⟩
  obtain ⟨b, off, hA, hcc⟩ := h4 hn
  refine ⟨b, off, hA, fun i hi => ?_⟩
  obtain ⟨u, hu, hr⟩ := hcc i hi
  refine ⟨u, k.cell_of hu (fun e => ?_), hR _ _ hr⟩
  have e' : b = P := e
  subst e'
  rw [cell_of_row _ _ _ _ _ _ hb] at hu
  have hm : u ∈ cs := by
    have : cs[off + i]? = some u := by simpa using hu
    exact List.mem_of_getElem? this
  exact hc u hm _ hr
theorem Byts.off {w w' : World} {v : Value} {L : List UInt8} {P : Nat} {cs : List Value} {T : TypeId} (h : Byts w v L) (hb : w.heap[P]? = some (.cells cs.toArray T (0, 0))) (hc : ∀ u ∈ cs, ∃ o, u = .pointer o) (k : Kp (fun j => j = P) w w') : Byts w' v L :=
  Slc.off h hb (fun u hu x hr => by
    obtain ⟨o, rfl⟩ := hc u hu
    have hr' : Value.pointer o = .int .u8 x.toNat := hr
    cases hr') k fun _ _ h => h
theorem Mat.off {w w' : World} {v : Value} {L : List (List UInt8)} {P : Nat} {cs : List Value} {T : TypeId} (h : Mat w v L) (hb : w.heap[P]? = some (.cells cs.toArray T (0, 0))) (hc : ∀ u ∈ cs, ∃ o, u = .pointer o) (k : Kp (fun j => j = P) w w') : Mat w' v L :=
  Slc.off h hb (fun u hu x hr => by
    obtain ⟨o, rfl⟩ := hc u hu
    obtain ⟨A, c, hv, _⟩ := hr
    cases hv) k fun u x h => Byts.off h hb hc k
theorem PrfAt.off {w w' : World} {q : Nat} {p : Prf} {P : Nat} {cs : List Value} {T : TypeId} (h : PrfAt w q p) (hq : q ≠ P) (hb : w.heap[P]? = some (.cells cs.toArray T (0, 0))) (hc : ∀ u ∈ cs, ∃ o, u = .pointer o) (k : Kp (fun j => j = P) w w') : PrfAt w' q p := by
  obtain ⟨lv, av, c0, c1, c2, c3, hl, ha, hn⟩ := h
  exact ⟨lv, av, k.cell_of c0 hq, k.cell_of c1 hq, k.cell_of c2 hq, k.cell_of c3 hq, hl.off hb hc k, ha.off hb hc k, hn⟩
theorem PrfAt.keep {w w' : World} {q : Nat} {p : Prf} (h : PrfAt w q p) (k : Keep w w') : PrfAt w' q p := by
  obtain ⟨lv, av, c0, c1, c2, c3, hl, ha, hn⟩ := h
  exact ⟨lv, av, k.cell_of c0 (fun x => x), k.cell_of c1 (fun x => x), k.cell_of c2 (fun x => x), k.cell_of c3 (fun x => x), Byts.keep hl k, Mat.keep ha k, hn⟩

set_option maxRecDepth 100000 in
set_option maxHeartbeats 1000000 in
theorem trails_zero (bd : Nat) (v : Value) (w : World) (hv : Mat w v []) (hK : KTab w) :
    Calls Tryz.prog 40 #[hshV bd, v] w fun e w' => ∃ tv r hv, e = .returned (.tuple #[.slice (some ⟨tv, 0, none⟩) 0 0, ptrV r]) ∧ Node w' r hv (.pointer none) (.pointer none) (.pointer none) ∧ Byts w' hv (rootS []) ∧ Keep w w' := by
  obtain ⟨A, c, rfl, h1, h2, h3, h4⟩ := hv
  have HK := Lib.hid hK
  clear h3 h4 hK
  go_enter Tryz.func40, Tryz.ntmps40
  go_wp2_with (go_at_call 50
               refine (emptyHash_any _ (HK.out.keep ((Kp.refl (fun _ => False) w).alloc _) (fun x => x))).mono ?_
               rintro e w1 ⟨v1, rfl, hb1, hk1⟩
               have HB1 := Lib.hid hb1
               have HK1 := Lib.hid hk1
               obtain ⟨g, off, c1, rfl, hB, -⟩ := hb1
               clear hk1)
  go_ret2
  obtain ⟨n1, hn1⟩ : ∃ n1, n1 = (sha []).length := ⟨_, rfl⟩
  have hr : rootS [] = sha [] := rfl
  have kz : Keep w (w.alloc (.cells #[] 74)) := (Kp.refl _ _).alloc _
  have ka : Keep w1 (w1.alloc (.cells #[.slice (some ⟨g, off, none⟩) (sha []).length c1, .pointer none, .pointer none, .pointer none] 78)) := (Kp.refl _ _).alloc _
  exact ⟨w.heap.size, w1.heap.size, _, rfl, heap_alloc_new _ _, by rw [hr]; exact HB1.out.byts.keep ka, (kz.trans HK1.out).trans ka⟩

set_option maxHeartbeats 1000000 in
theorem trailsFrom_any (v : Value) (L : List (List UInt8)) (w : World) (hv : Mat w v L) (hL1 : 1 ≤ L.length) (hK : KTab w) (hL : L.length ≤ 1000000) (hb : ∀ x ∈ L, x.length ≤ 1073741824) :
    Calls Tryz.prog 32 #[v] w fun e w' => ∃ tv r bd lo, e = .returned (.tuple #[tv, ptrV r]) ∧ Forest w' bd lo tv L r ∧ w.heap.size ≤ bd ∧ bd < lo ∧ Keep w w' := by
  have HV := Lib.hid hv
  have HK := Lib.hid hK
  have HB := Lib.hid hb
  clear hv hK hb
  unfold ptrV
  go_enter Tryz.func32, Tryz.ntmps32
  go_wp2_with (first
    | (go_at_call 41
       refine (newHash_any _).mono ?_
       rintro e w1 ⟨b, rfl, hb1, hd1, hk1⟩
       have hbl : b < w1.heap.size := hd1.lt
       have HD1 := Lib.hid hd1
       have HK1 := Lib.hid hk1
       clear hd1 hk1)
    | (go_at_call 40
       refine (trails_n b L.length L v _ (Nat.le_refl _) hL1 (MatB.of HV.out HK1.out hb1) ⟨_, HD1.out⟩ (HK.out.keep HK1.out (fun x => x)) hL HB.out).mono ?_
       rintro e w2 ⟨tv, r, rfl, ho2, hd2, hk2⟩
       unfold ptrV
       have HO2 := Lib.hid ho2
       have HK2 := Lib.hid hk2
       clear ho2 hd2 hk2))
  go_ret2
  exact ⟨tv, r, b, w1.heap.size, rfl, HO2.out, hb1, hbl, HK1.out.trans' HK2.out fun i hi e => by omega⟩

set_option maxHeartbeats 1000000 in
theorem trailsFrom_zero (v : Value) (w : World) (hv : Mat w v []) (hK : KTab w) :
    Calls Tryz.prog 32 #[v] w fun e w' => ∃ tv r hv, e = .returned (.tuple #[.slice (some ⟨tv, 0, none⟩) 0 0, ptrV r]) ∧ Node w' r hv (.pointer none) (.pointer none) (.pointer none) ∧ Byts w' hv (rootS []) ∧ Keep w w' := by
  have HV := Lib.hid hv
  have HK := Lib.hid hK
  clear hv hK
  unfold ptrV
  go_enter Tryz.func32, Tryz.ntmps32
  go_wp2_with (first
    | (go_at_call 41
       refine (newHash_any _).mono ?_
       rintro e w1 ⟨b, rfl, hb1, hd1, hk1⟩
       have HK1 := Lib.hid hk1
       clear hd1 hk1)
    | (go_at_call 40
       refine (trails_zero b v _ (Mat.keep HV.out HK1.out) (HK.out.keep HK1.out (fun x => x))).mono ?_
       rintro e w2 ⟨tv, r, hr, rfl, hn2, hb2, hk2⟩
       unfold ptrV
       have HN2 := Lib.hid hn2
       have HB2 := Lib.hid hb2
       have HK2 := Lib.hid hk2
       clear hn2 hb2 hk2))
  go_ret2
  exact ⟨tv, r, hr, rfl, HN2.out, HB2.out, HK1.out.trans HK2.out⟩
end Go.Proofs.YtfodkjpjejoemaaGreatDoor

/-
  Proofs of a tree's leaves: the package's list of proofs walked.
  Conditions: the argument reads as a list of slices of bytes; SHA-256's table holds its numbers.
-/
namespace Go.Proofs.YtfodkjpjejoemaaGreatDoor
open Go Go.RowKit
attribute [local go_sem ↓] Go.wp_at_zero Go.wp_at_succ

/-- a pointer to a proof -/
def PtrU (w : World) (u : Value) (p : Prf) : Prop := ∃ q, u = ptrV q ∧ PrfAt w q p
def prfs (L : List (List UInt8)) : List Prf := (List.range L.length).map (prfOf L)
theorem leafS_length (x : List UInt8) : (leafS x).length = 32 := by unfold leafS; rw [sha_length]
theorem prfs_length (L : List (List UInt8)) : (prfs L).length = L.length := by unfold prfs; simp
theorem prfs_at (L : List (List UInt8)) (i : Nat) (h : i < (prfs L).length) : (prfs L)[i] = prfOf L i := by simp [prfs]
theorem ptrs_all (qs : List Nat) (k : Nat) : ∀ u ∈ qs.map ptrV ++ List.replicate k (Value.pointer none), ∃ o, u = .pointer o := by
  intro u hu
  rcases List.mem_append.1 hu with h | h
  · obtain ⟨q, _, rfl⟩ := List.mem_map.1 h; exact ⟨_, rfl⟩
  · exact ⟨none, (List.mem_replicate.1 h).2⟩
theorem ptrs_set (qs : List Nat) (n i q : Nat) (h : qs.length = i) (hi : i < n) : (qs.map ptrV ++ List.replicate (n - i) (Value.pointer none)).set i (ptrV q) = (qs ++ [q]).map ptrV ++ List.replicate (n - (i + 1)) (Value.pointer none) := by
  obtain ⟨k, hk⟩ : ∃ k, n - i = k + 1 := ⟨n - i - 1, by omega⟩
  rw [hk, show n - (i + 1) = k by omega, List.set_append_right _ _ (by simp [h])]
  simp [h, List.replicate_succ]
theorem makeP (n : Nat) (h : n ≤ 1099511627777) (w : World) : (Instr.makeSlice 47 (.int .i64 (n : Int)) (.int .i64 (n : Int))).run Tryz.prog w = .ok (.slice (some ⟨w.heap.size, 0, none⟩) n n) (w.alloc (.cells (List.replicate n (.pointer none)).toArray 50)) := by
  obtain ⟨i0, hi, hz0, hz1, hz2⟩ := info_parts (show (Tryz.prog.info? 50).map (fun i => (i.zero, i.size, i.bytes)) = some (some (.pointer none), 1, 8) by kernel_rfl)
  exact run_make_row1 47 50 i0 (.pointer none) Tryz.underlying47 hi hz0 hz1 rfl n n n rfl rfl (by rw [hz2]; omega) (by omega) w

set_option maxRecDepth 100000 in
set_option maxHeartbeats 2000000 in
theorem proofsFrom_any (v : Value) (L : List (List UInt8)) (w : World) (hv : Mat w v L) (hL1 : 1 ≤ L.length) (hK : KTab w) (hL : L.length ≤ 1000000) (hb : ∀ x ∈ L, x.length ≤ 1073741824) :
    Calls Tryz.prog 18 #[v] w fun e w' => ∃ hv pv, e = .returned (.tuple #[hv, pv]) ∧ Byts w' hv (rootS L) ∧ Slc PtrU w' pv (prfs L) ∧ Keep w w' := by
  have HV := Lib.hid hv
  have HK := Lib.hid hK
  have HB := Lib.hid hb
  obtain ⟨A, c, rfl, h1, h2, h3, h4⟩ := hv
  obtain ⟨n, hn⟩ : ∃ n, n = L.length := ⟨_, rfl⟩
  have HN := Lib.hid hn
  rw [← hn] at hL1 hL h1 HV ⊢
  unfold maxLen at h2
  have hmk := makeP n (by omega)
  have e0 : decide ((n : Int) < 0) = false := decide_eq_false (by omega)
  clear hK hb h3 h4 hn
  go_enter Tryz.func18, Tryz.ntmps18
  go_wp2_with fail
  refine (trailsFrom_any _ L w HV.out (by rw [← HN.out]; exact hL1) HK.out (by rw [← HN.out]; exact hL) HB.out).mono ?_
  rintro e w1 ⟨tv, r, bd, lo, rfl, hf1, hbd1, hbd2, hk1⟩
  have HF1 := Lib.hid hf1
  have HK1 := Lib.hid hk1
  obtain ⟨ps, ho, htr, hlo, hr, hnr, hhr⟩ := hf1
  unfold ptrV
  have HO := Lib.hid ho
  have HTR := Lib.hid htr
  have HNR := Lib.hid hnr
  have HHR := Lib.hid hhr
  obtain ⟨d0, -, -, -⟩ := hnr.cells
  have hpl : ps.length = n := by rw [htr.1, HN.out]
  have HPL := Lib.hid hpl
  obtain ⟨At0, ct, rfl, t1, t2, -, t4⟩ := ho.form
  obtain ⟨gt, rfl, hgt, -⟩ := t4 (by rw [List.length_map, hpl]; omega)
  rw [List.length_map, hpl] at t1 HO
  rw [List.length_map, hpl]
  have hgtl := (ho.lt gt rfl).2
  unfold maxLen at t2
  obtain ⟨Ar, cr, rfl, -, -, -, -⟩ := hhr.form
  rw [List.length_map, rootS_length] at HHR d0 HNR
  have hrl := lt_of_block hnr
  clear hk1 ho htr hnr hhr hpl t4
  obtain ⟨P, hP⟩ : ∃ P, P = w1.heap.size := ⟨_, rfl⟩
  have HP := Lib.hid hP
  obtain ⟨wa, hwa⟩ : ∃ wa, wa = w1.alloc (.cells (Array.replicate n (.pointer none)) 50) := ⟨_, rfl⟩
  have hrow0 : wa.heap[P]? = some (.cells (Array.replicate n (.pointer none)) 50 (0, 0)) := by rw [hwa, hP]; exact heap_alloc_new _ _
  have hka : Keep w1 wa := by rw [hwa]; exact (Kp.refl _ _).alloc _
  have HKA := Lib.hid hka
  have HROW0 := Lib.hid hrow0
  go_wp2_with fail
  rw [← hwa, ← hP]
  clear hwa hP hka hrow0
  go_loopw [22] (fun iv wr => ∃ (i : Nat) (qs : List Nat), i ≤ n ∧ iv = .int .i64 i ∧ qs.length = i ∧ wr.heap[P]? = some (.cells (qs.map ptrV ++ List.replicate (n - i) (Value.pointer none)).toArray 50 (0, 0)) ∧ (∀ k (h : k < qs.length), PrfAt wr qs[k] (prfOf L k) ∧ P < qs[k]) ∧ Keep w1 wr) (fun iv _ => n - (intOf iv).toNat)
  case atStart => exact ⟨0, [], Nat.zero_le _, rfl, rfl, by rw [HROW0.out]; simp, fun k h => absurd h (by simp), HKA.out⟩
  case round =>
    obtain ⟨i, qs, hi, rfl, hql, hrow, hel, hkp⟩ := hrel
    have HQL := Lib.hid hql
    have HRW := Lib.hid hrow
    have HEL := Lib.hid hel
    have HKP := Lib.hid hkp
    have hPl := lt_of_block hrow
    have hws := hkp.size
    clear hql hrow hel hkp
    by_cases hlt : i < n
    · have hip : i < ps.length := by rw [HPL.out]; exact hlt
      have hiL : i < L.length := by rw [← HN.out]; exact hlt
      have hc := HO.out.cell_ i (by rw [List.length_map]; exact hip)
      have hcp : wr.cell? ⟨gt, i, none⟩ = some (.pointer (some ⟨ps[i], 0, none⟩)) := by
        have := HKP.out.cell_of hc.1 (fun x => x)
        rw [List.getElem_map] at this
        exact this
      obtain ⟨⟨hvp, xp, xl, xr, np, hhp⟩, g1, g2, hpath⟩ := HTR.out.2 i hip hiL
      obtain ⟨q, hq⟩ : ∃ q, q = ps[i] := ⟨_, rfl⟩
      rw [← hq] at hcp np hpath g1 g2
      obtain ⟨Ap, cp, rfl, -, -, -, -⟩ := hhp.form
      rw [List.length_map, leafS_length] at np hhp
      have NP := Lib.hid np
      have HHP := Lib.hid hhp
      have HPT := Lib.hid hpath
      have hq0 := (np.keep HKP.out).cells.1
      have hql := lt_of_block np
      obtain ⟨e1, f1⟩ : wr.cell? ⟨P, i, none⟩ = some (.pointer none) ∧ wr.frozen? ⟨P, i, none⟩ = false := by
        refine ⟨?_, frozen_of_row _ _ _ _ _ HRW.out⟩
        rw [cell_of_row _ _ _ _ _ _ HRW.out]
        have h9 := HQL.out
        rw [List.getElem?_toArray, List.getElem?_append_right (by simp [h9]), List.getElem?_replicate, if_pos (by rw [List.length_map, h9]; omega)]
      have HQ := Lib.hid hq
      clear hc np hhp hpath hq
      have hpr : Hid (PathTo wr.drew bd lo r q (auntsS L i)) := Lib.hid (HPT.out.keep (HKP.out.drew))
      have hnr : Hid (Node wr.drew r (.slice Ar 32 cr) (.pointer none) (.pointer none) (.pointer none)) := Lib.hid (HNR.out.keep (HKP.out.drew))
      have hau : (auntsS L i).length ≤ 1000000 := by
        have := auntsS_count 20 L i (by rw [← HN.out]; omega)
        omega
      go_wp2_with fail
      go_region_with (first
        | (go_at_call 33
           refine (flatten_any bd lo r q (auntsS L i) _ _ hpr.out hnr.out hau).mono ?_
           rintro e w3 ⟨va, rfl, ha3, hk3⟩
           obtain ⟨Aa, ca, rfl, -, -, -, -⟩ := id ha3
           have HA3 := Lib.hid ha3
           have hk3' : Keep wr w3 := (Kp.refl _ wr).drew.trans hk3
           have HK3 := Lib.hid hk3'
           have hq3 := hk3'.cell_of hq0 (fun x => x)
           have e3 := hk3'.cell_of e1 (fun x => x)
           have f3 := (hk3'.frozen (p := ⟨P, i, none⟩) hPl (fun x => x)).trans f1
           have hP3 : P < w3.heap.size := Nat.lt_of_lt_of_le hPl hk3'.size
           clear ha3 hk3 hk3'))
      all_goals
        go_wp2_with fail
        have hs3 : w1.heap.size ≤ w3.heap.size := (HKP.out.trans HK3.out).size
        obtain ⟨b, hb⟩ : ∃ b, b = w3.heap.size := ⟨_, rfl⟩
        obtain ⟨w4, hw4⟩ : ∃ w4, w4 = w3.setCell ⟨P, i, none⟩ (.pointer (some ⟨b, 0, none⟩)) := ⟨_, rfl⟩
        have hset : Kp (fun j => j = P) w3 w4 := by rw [hw4]; exact (Kp.refl (fun j => j = P) w3).setCell (p := ⟨P, i, none⟩) (fun _ => rfl) _
        obtain ⟨w5, hw5⟩ : ∃ w5, w5 = w4.alloc (.cells #[.int .i64 n, .int .i64 i, .slice Ap 32 cp, .slice Aa (auntsS L i).length ca] 53) := ⟨_, rfl⟩
        have ka : Keep w4 w5 := by rw [hw5]; exact (Kp.refl _ _).alloc _
        have hs4 : w4.heap.size = b := by rw [hw4, hb]; simp [World.setCell]
        have hnew : w5.heap[b]? = some (.cells #[.int .i64 n, .int .i64 i, .slice Ap 32 cp, .slice Aa (auntsS L i).length ca] 53 (0, 0)) := by rw [hw5, ← hs4]; exact heap_alloc_new _ _
        have hbP : P < b := by rw [hb]; exact hP3
        have hrow3 : w3.heap[P]? = some (.cells (qs.map ptrV ++ List.replicate (n - i) (Value.pointer none)).toArray 50 (0, 0)) := (HK3.out.block P hPl (fun x => x)).trans HRW.out
        have hrow5 : w5.heap[P]? = some (.cells ((qs ++ [b]).map ptrV ++ List.replicate (n - (i + 1)) (Value.pointer none)).toArray 50 (0, 0)) := by
          rw [ka.block P (by rw [hs4]; exact hbP) (fun x => x), hw4, heap_setCell_same _ _ _ _ _ _ hrow3, ← ptrs_set qs n i b HQL.out hlt]
          simp [ptrV]
        have hall := ptrs_all qs (n - i)
        have hP5 : w1.heap.size ≤ P := by rw [HP.out]; exact Nat.le_refl _
        have hkf : Keep w1 w5 := ((HKP.out.trans HK3.out).trans' hset (fun j hj e => by omega)).trans ka
        have HKA := Lib.hid ka
        have HSET := Lib.hid hset
        have HB4 := Lib.hid hb
        have HW4 := Lib.hid hw4
        have HW5 := Lib.hid hw5
        have HKF := Lib.hid hkf
        have HR5 := Lib.hid hrow5
        have HR3 := Lib.hid hrow3
        have HNW := Lib.hid hnew
        rw [← hb, ← hw4, ← hw5]
        clear hw4 hw5 hb hset ka hkf hrow5 hrow3 hnew
        go_roundw
        case rel =>
          refine ⟨i + 1, qs ++ [b], hlt, by go_num, by rw [List.length_append, HQL.out]; rfl, HR5.out, ?_, HKF.out⟩
          intro k hk
          by_cases hki : k < qs.length
          · rw [List.getElem_append_left hki]
            obtain ⟨h8, h9⟩ := HEL.out k hki
            exact ⟨((h8.keep HK3.out).off (by omega) HR3.out hall HSET.out).keep HKA.out, h9⟩
          · have hkv : k = i := by rw [List.length_append, HQL.out] at hk; have := HQL.out; simp at hk; omega
            subst hkv
            have e9 : (qs ++ [b])[k]'hk = b := by rw [List.getElem_append_right (by have := HQL.out; omega)]; simp
            rw [e9]
            refine ⟨?_, hbP⟩
            have hlf : L.getD k [] = L[k] := by rw [List.getD_eq_getElem?_getD, List.getElem?_eq_getElem hiL]; rfl
            refine ⟨.slice Ap 32 cp, .slice Aa (auntsS L k).length ca, ?_, ?_, ?_, ?_, ?_, (HA3.out.off HR3.out hall HSET.out).keep HKA.out, ?_⟩
            · rw [cell_of_row _ _ _ _ _ _ HNW.out]; show _ = some (Value.int IntKind.i64 ((L.length : Nat) : Int)); rw [← HN.out]; rfl
            · rw [cell_of_row _ _ _ _ _ _ HNW.out]; rfl
            · rw [cell_of_row _ _ _ _ _ _ HNW.out]; rfl
            · rw [cell_of_row _ _ _ _ _ _ HNW.out]; rfl
            · show Byts w5 _ (leafS (L.getD k []))
              rw [hlf]
              exact HHP.out.byts.keep HKF.out
            · show -9223372036854775808 ≤ ((L.length : Nat) : Int) ∧ ((L.length : Nat) : Int) ≤ 9223372036854775807 ∧ -9223372036854775808 ≤ ((k : Nat) : Int) ∧ ((k : Nat) : Int) ≤ 9223372036854775807
              rw [← HN.out]; omega
        case measure => simp [intOf]; omega
    · have hin : i = n := by omega
      subst hin
      go_wp2_with fail
      go_ret2
      refine ⟨_, _, rfl, (HHR.out.byts).keep HKP.out, ?_, HK1.out.trans HKP.out⟩
      refine ⟨some ⟨P, 0, none⟩, i, by rw [prfs_length, ← HN.out]; rfl, by rw [prfs_length, ← HN.out]; exact Nat.le_refl _, by unfold maxLen; omega, (fun e => by cases e), fun _ => ⟨P, 0, rfl, fun k hk => ?_⟩⟩
      have hk2 : k < qs.length := by rw [prfs_length, ← HN.out] at hk; rw [HQL.out]; exact hk
      refine ⟨ptrV qs[k], ?_, ⟨qs[k], rfl, ?_⟩⟩
      · rw [Nat.zero_add, cell_of_row _ _ _ _ _ _ HRW.out, List.getElem?_toArray, List.getElem?_append_left (by rw [List.length_map]; exact hk2), List.getElem?_map, List.getElem?_eq_getElem hk2]; rfl
      · rw [prfs_at]; exact (HEL.out k hk2).1
end Go.Proofs.YtfodkjpjejoemaaGreatDoor

/-
  Proofs of a tree's leaves: the package's lists of proofs handed out by impl.
  Conditions: the argument reads as a list of slices of bytes; SHA-256's table holds its numbers.
-/
namespace Go.Proofs.YtfodkjpjejoemaaGreatDoor
open Go Go.RowKit
attribute [local go_sem ↓] Go.wp_at_zero Go.wp_at_succ

set_option maxRecDepth 100000 in
set_option maxHeartbeats 1000000 in
theorem proofsFrom_zero (v : Value) (w : World) (hv : Mat w v []) (hK : KTab w) :
    Calls Tryz.prog 18 #[v] w fun e w' => ∃ hv pv, e = .returned (.tuple #[hv, pv]) ∧ Byts w' hv (rootS []) ∧ Slc PtrU w' pv (prfs []) ∧ Keep w w' := by
  have HV := Lib.hid hv
  have HK := Lib.hid hK
  obtain ⟨A, c, rfl, h1, h2, h3, h4⟩ := hv
  have hmk : ∀ w : World, (Instr.makeSlice 47 (.int .i64 0) (.int .i64 0)).run Tryz.prog w = .ok (.slice (some ⟨w.heap.size, 0, none⟩) 0 0) (w.alloc (.cells #[] 50)) := makeP 0 (by omega)
  clear hK h3 h4
  go_enter Tryz.func18, Tryz.ntmps18
  go_wp2_with fail
  refine (trailsFrom_zero _ w HV.out HK.out).mono ?_
  rintro e w1 ⟨tv, r, hr, rfl, hnr, hbr, hk1⟩
  have HK1 := Lib.hid hk1
  have HBR := Lib.hid hbr
  obtain ⟨d0, -, -, -⟩ := hnr.cells
  obtain ⟨Ar, cr, rfl, -, -, -, -⟩ := hbr
  unfold ptrV
  clear hk1 hnr
  go_wp2_with fail
  go_loopw [22] (fun iv wr => iv = .int .i64 0 ∧ Keep w1 wr) (fun iv _ => 0)
  case atStart => exact ⟨rfl, (Kp.refl _ _).alloc _⟩
  case round =>
    obtain ⟨rfl, hkp⟩ := hrel
    have HKP := Lib.hid hkp
    clear hkp
    go_wp2_with fail
    go_ret2
    exact ⟨_, _, rfl, (HBR.out).keep HKP.out, ⟨some ⟨w1.heap.size, 0, none⟩, 0, rfl, Nat.le_refl _, by simp [maxLen], (fun e => by cases e), fun h => absurd h (by simp [prfs])⟩, HK1.out.trans HKP.out⟩

theorem proofsFrom_all (v : Value) (L : List (List UInt8)) (w : World) (hv : Mat w v L) (hK : KTab w) (hL : L.length ≤ 1000000) (hb : ∀ x ∈ L, x.length ≤ 1073741824) :
    Calls Tryz.prog 18 #[v] w fun e w' => ∃ hv pv, e = .returned (.tuple #[hv, pv]) ∧ Byts w' hv (rootS L) ∧ Slc PtrU w' pv (prfs L) ∧ Keep w w' := by
  rcases Nat.eq_zero_or_pos L.length with h | h
  · obtain rfl := List.eq_nil_of_length_eq_zero h
    exact proofsFrom_zero v w hv hK
  · exact proofsFrom_any v L w hv h hK hL hb

/-- proofs in a row: four cells each -/
def cellsP (PS : List (Prf × Value × Value)) : List Value := PS.flatMap fun p => [.int .i64 p.1.total, .int .i64 p.1.index, p.2.1, p.2.2]
theorem cellsP_length (PS : List (Prf × Value × Value)) : (cellsP PS).length = PS.length * 4 := by
  induction PS with
  | nil => rfl
  | cons p r ih => show (_ :: _ :: _ :: _ :: cellsP r).length = _; simp [ih]; omega
theorem cellsP_snoc (PS : List (Prf × Value × Value)) (p : Prf × Value × Value) : cellsP (PS ++ [p]) = cellsP PS ++ [.int .i64 p.1.total, .int .i64 p.1.index, p.2.1, p.2.2] := by
  unfold cellsP; rw [List.flatMap_append]; simp
theorem cellsP_at (PS : List (Prf × Value × Value)) (i : Nat) (h : i < PS.length) : (cellsP PS)[i * 4]? = some (.int .i64 PS[i].1.total) ∧ (cellsP PS)[i * 4 + 1]? = some (.int .i64 PS[i].1.index) ∧ (cellsP PS)[i * 4 + 2]? = some PS[i].2.1 ∧ (cellsP PS)[i * 4 + 3]? = some PS[i].2.2 := by
  induction PS generalizing i with
  | nil => simp at h
  | cons p r ih =>
    have e : cellsP (p :: r) = .int .i64 p.1.total :: .int .i64 p.1.index :: p.2.1 :: p.2.2 :: cellsP r := rfl
    rw [e]
    cases i with
    | zero => simp
    | succ i =>
      have := ih i (by simpa using h)
      rw [show (i + 1) * 4 = i * 4 + 4 by omega, show i * 4 + 4 + 1 = i * 4 + 1 + 4 by omega, show i * 4 + 4 + 2 = i * 4 + 2 + 4 by omega, show i * 4 + 4 + 3 = i * 4 + 3 + 4 by omega]
      simpa using this
def PRow (w : World) (B : Nat) (v : Value) (PS : List (Prf × Value × Value)) : Prop := w.ownsRow B 36 4 v PS.length (cellsP PS)
theorem PRow.nil_ (w : World) (B : Nat) : PRow w B (.slice none 0 0) [] := ⟨by simp [cellsP], .inl ⟨rfl, rfl⟩⟩
theorem PRow.keep {w w' : World} {B : Nat} {v : Value} {PS : List (Prf × Value × Value)} (h : PRow w B v PS) (k : Keep w w') : PRow w' B v PS := by
  refine ⟨h.1, ?_⟩
  rcases h.2 with h2 | ⟨g, cap, cur, rfl, hb, hh, h3, h4, h5, h6⟩
  · exact .inl h2
  · exact .inr ⟨g, cap, cur, rfl, hb, (k.block g (lt_of_block hh) (fun x => x)).trans hh, h3, h4, h5, h6⟩
theorem PRow.at_ {w : World} {B : Nat} {v : Value} {PS : List (Prf × Value × Value)} (h : PRow w B v PS) (i : Nat) (hi : i < PS.length) : ∃ g c, v = .slice (some ⟨g, 0, none⟩) PS.length c ∧
    w.cell? ⟨g, i * 4, none⟩ = some (.int .i64 PS[i].1.total) ∧ w.cell? ⟨g, i * 4 + 1, none⟩ = some (.int .i64 PS[i].1.index) ∧ w.cell? ⟨g, i * 4 + 2, none⟩ = some PS[i].2.1 ∧ w.cell? ⟨g, i * 4 + 3, none⟩ = some PS[i].2.2 := by
  rcases h.2 with ⟨_, h0⟩ | ⟨g, cap, cur, rfl, hb, hh, h3, h4, h5, h6⟩
  · omega
  · have ha := cellsP_at PS i hi
    have hl := cellsP_length PS
    have h7 : ∀ k, k < PS.length * 4 → cur[k]? = (cellsP PS)[k]? := fun k hk => by
      rw [← h6, List.getElem?_take_of_lt hk]; simp
    exact ⟨g, cap, rfl, by rw [cell_of_row _ _ _ _ _ _ hh, h7 _ (by omega)]; exact ha.1, by rw [cell_of_row _ _ _ _ _ _ hh, h7 _ (by omega)]; exact ha.2.1, by rw [cell_of_row _ _ _ _ _ _ hh, h7 _ (by omega)]; exact ha.2.2.1, by rw [cell_of_row _ _ _ _ _ _ hh, h7 _ (by omega)]; exact ha.2.2.2⟩
/-- a list of proofs, handed out -/
def PList (w : World) (v : Value) (L : List Prf) : Prop := ∃ B PS, PRow w B v PS ∧ PS.length = L.length ∧ ∀ i (h : i < PS.length) (h2 : i < L.length), PS[i].1 = L[i] ∧ PrfV w (.agg #[.int .i64 PS[i].1.total, .int .i64 PS[i].1.index, PS[i].2.1, PS[i].2.2]) L[i]
theorem infoPrf : (Tryz.prog.info? 36).map (fun i => (i.zero, i.size, i.bytes)) = some (some (.agg #[.int .i64 0, .int .i64 0, .slice none 0 0, .slice none 0 0]), 4, 64) := by kernel_rfl

set_option maxRecDepth 100000 in
set_option maxHeartbeats 2000000 in
theorem implProofs_any (v : Value) (L : List (List UInt8)) (w : World) (hv : Mat w v L) (hK : KTab w) (hL : L.length ≤ 1000000) (hb : ∀ x ∈ L, x.length ≤ 1073741824) :
    Calls Tryz.prog 7 #[v] w fun e w' => ∃ hv pv, e = .returned (.tuple #[hv, pv]) ∧ Byts w' hv (rootS L) ∧ PList w' pv (prfs L) ∧ Keep w w' := by
  have HV := Lib.hid hv
  have HK := Lib.hid hK
  have HB := Lib.hid hb
  obtain ⟨A, c, rfl, h1, h2, h3, h4⟩ := hv
  obtain ⟨i0, ii, hz0, hz1, hz2⟩ := info_parts infoPrf
  obtain ⟨n, hn⟩ : ∃ n, n = L.length := ⟨_, rfl⟩
  have HN := Lib.hid hn
  have hpl : (prfs L).length = n := by rw [prfs_length, hn]
  have HPL := Lib.hid hpl
  have HLL := Lib.hid hL
  rw [← hn] at h1 hL ⊢
  unfold maxLen at h2
  clear hK hb h3 h4 hn hpl
  go_enter Tryz.func7, Tryz.ntmps7
  go_wp2_with fail
  refine (proofsFrom_all _ L w (by rw [HN.out]; exact HV.out) HK.out HLL.out HB.out).mono ?_
  rintro e w1 ⟨hvv, pv, rfl, hbr, hsp, hk1⟩
  have HBR := Lib.hid hbr
  have HK1 := Lib.hid hk1
  have HSP := Lib.hid hsp
  obtain ⟨Ar, cr, rfl, -, -, -, -⟩ := hbr
  obtain ⟨Ap, cp, rfl, s1, s2, s3, s4⟩ := hsp
  rw [HPL.out] at s1
  rw [HPL.out]
  unfold maxLen at s2
  have S4 := Lib.hid s4
  clear hk1 s3 s4
  go_wp2_with fail
  go_loopw [3, 14] (fun ov iv wr => ∃ (i : Nat) (PS : List (Prf × Value × Value)), i ≤ n ∧ iv = .int .i64 i ∧ PS.length = i ∧ PRow wr w1.heap.size ov PS ∧ (∀ k (h : k < PS.length) (h2 : k < (prfs L).length), PS[k].1 = (prfs L)[k] ∧ PrfV w1 (.agg #[.int .i64 PS[k].1.total, .int .i64 PS[k].1.index, PS[k].2.1, PS[k].2.2]) (prfs L)[k]) ∧ Keep w1 wr) (fun _ iv _ => n - (intOf iv).toNat)
  case atStart => exact ⟨0, [], Nat.zero_le _, rfl, rfl, PRow.nil_ _ _, fun k h => absurd h (by simp), Kp.refl _ _⟩
  case round =>
    obtain ⟨i, PS, hi, rfl, hql, hrow, hel, hkp⟩ := hrel
    have HQL := Lib.hid hql
    have HRW := Lib.hid hrow
    have HEL := Lib.hid hel
    have HKP := Lib.hid hkp
    have hws := hkp.size
    clear hql hrow hel hkp
    by_cases hlt : i < n
    · have hiP : i < (prfs L).length := by rw [HPL.out]; exact hlt
      obtain ⟨g, off, rfl, hc⟩ := S4.out (by omega)
      obtain ⟨u, hu, ⟨q, rfl, hat⟩⟩ := hc i hiP
      obtain ⟨p, hp⟩ : ∃ p, p = (prfs L)[i] := ⟨_, rfl⟩
      rw [← hp] at hat
      have HP := Lib.hid hp
      obtain ⟨lv, av, c0, c1, c2, c3, hlv, hav, b1, b2, b3, b4⟩ := hat
      have HLV := Lib.hid hlv
      have HAV := Lib.hid hav
      have hu2 := HKP.out.cell_of hu (fun x => x)
      unfold ptrV at hu2
      have hp5 : PS.length ≤ 1000000 := by rw [HQL.out]; omega
      have HOU := Lib.hid (implOurs_any q p wr lv av (Byts.keep hlv HKP.out) (Mat.keep hav HKP.out) (HKP.out.cell_of c0 (fun x => x)) (HKP.out.cell_of c1 (fun x => x)) (HKP.out.cell_of c2 (fun x => x)) (HKP.out.cell_of c3 (fun x => x)))
      obtain ⟨Al, cl, rfl, -, -, -, -⟩ := hlv
      obtain ⟨Aa, ca, rfl, -, -, -, -⟩ := hav
      obtain ⟨pt, hpt⟩ : ∃ pt, pt = p.total := ⟨_, rfl⟩
      obtain ⟨pi, hpi⟩ : ∃ pi, pi = p.index := ⟨_, rfl⟩
      rw [← hpt, ← hpi] at HOU
      have HPT := Lib.hid hpt
      have HPI := Lib.hid hpi
      clear hc hu hp hpt hpi c0 c1 c2 c3
      go_wp2_with (first
        | (go_at_call 19
           refine HOU.out.mono ?_
           rintro e w2 ⟨rfl, hk2⟩
           have HK2 := Lib.hid hk2
           have hs2 := hk2.size
           clear hk2)
        | (at_builtin
           refine wpList_append_own _ rfl (.tmp 18) (.tmp 21) 29 rfl w1.heap.size 36 i0 (.agg #[.int .i64 0, .int .i64 0, .slice none 0 0, .slice none 0 0]) 4 64 Tryz.underlying29 ii hz0 hz1 hz2 rfl (by decide) _ PS.length _ rfl ((HRW.out.keep HK2.out).alloc _) ⟨w2.heap.size, 0, none⟩ 1 1 [.int .i64 pt, .int .i64 pi, .slice Al p.leaf.length cl, .slice Aa p.aunts.length ca] rfl rfl ?c1 ?c2 ?c3 ?c4 ?c5 ?_))
      case c1 =>
        intro j u hj
        match j, hj with
        | 0, hj => simp at hj; subst hj; simp [Addr.add]
        | 1, hj => simp at hj; subst hj; simp [Addr.add]
        | 2, hj => simp at hj; subst hj; simp [Addr.add]
        | 3, hj => simp at hj; subst hj; simp [Addr.add]
        | j + 4, hj => simp at hj
      case c2 => intro u hu; simp at hu; rcases hu with rfl | rfl | rfl | rfl <;> rfl
      case c3 => unfold maxLen; omega
      case c4 => omega
      case c5 => simp; omega
      intro v2 w3 h2 hg2 _
      have HV2 := Lib.hid h2
      have HG2 := Lib.hid (Kp.of_grown hg2)
      clear h2 hg2
      go_wp2_with fail
      go_roundw
      case rel =>
        refine ⟨i + 1, PS ++ [(p, .slice Al p.leaf.length cl, .slice Aa p.aunts.length ca)], hlt, by go_num, by rw [List.length_append, HQL.out]; rfl, ?_, ?_, ((HKP.out.trans HK2.out).alloc _).trans' HG2.out fun j hj e => by have := (HRW.out.lt j e.symm).1; omega⟩
        · unfold PRow
          rw [cellsP_snoc, List.length_append]
          have h9 := HV2.out
          rw [HPT.out, HPI.out] at h9
          exact h9
        · intro k hk hk2
          by_cases hki : k < PS.length
          · rw [List.getElem_append_left hki]
            exact HEL.out k hki hk2
          · have hkv : k = i := by rw [List.length_append, HQL.out] at hk; have := HQL.out; simp at hk; omega
            subst hkv
            have e9 : (PS ++ [(p, Value.slice Al p.leaf.length cl, Value.slice Aa p.aunts.length ca)])[k]'hk = (p, Value.slice Al p.leaf.length cl, Value.slice Aa p.aunts.length ca) := by
              rw [List.getElem_append_right (by have := HQL.out; omega)]; simp
            rw [e9, ← HP.out]
            exact ⟨rfl, _, _, rfl, HLV.out, HAV.out, b1, b2, b3, b4⟩
      case measure => simp [intOf]; omega
    · have hin : i = n := by omega
      subst hin
      go_wp2_with fail
      go_ret2
      refine ⟨_, _, rfl, HBR.out.keep HKP.out, ⟨w1.heap.size, PS, HRW.out, by rw [HQL.out, HPL.out], fun k hk hk2 => ?_⟩, HK1.out.trans HKP.out⟩
      obtain ⟨h8, h9⟩ := HEL.out k hk hk2
      exact ⟨h8, h9.keep HKP.out⟩
end Go.Proofs.YtfodkjpjejoemaaGreatDoor
