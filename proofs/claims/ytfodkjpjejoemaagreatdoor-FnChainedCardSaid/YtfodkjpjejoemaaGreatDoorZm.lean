
/-
  Proofs of a tree's leaves: the package's tree of nodes walked.
  Conditions: the argument reads as a list of slices of bytes, of one at least; SHA-256's table holds its numbers.
-/
import Derived.Test.YtfodkjpjejoemaaGreatDoorZl
namespace Go.Proofs.YtfodkjpjejoemaaGreatDoor
open Go Go.RowKit
attribute [local go_sem ↓] Go.wp_at_zero Go.wp_at_succ

theorem appN : AppOk Tryz.prog 73 74 8 := by
  obtain ⟨i0, hi, hz0, hz1, hz2⟩ := info_parts (show (Tryz.prog.info? 74).map (fun i => (i.zero, i.size, i.bytes)) = some (some (.pointer none), 1, 8) by kernel_rfl)
  exact ⟨Tryz.underlying73, by omega, i0, _, hi, hz0, hz1, hz2, rfl⟩
theorem onePtr (ps : List Nat) : ∀ u ∈ ps.map ptrV, u.oneCell' = true := by
  intro u hu; obtain ⟨x, _, rfl⟩ := List.mem_map.1 hu; rfl
theorem Own.src {w : World} {base : Nat} {e : TypeId} {A : Option Addr} {n c : Nat} {ps : List Nat} (h : Own w base e (.slice A n c) (ps.map ptrV)) : Src w A n (ps.map ptrV) := by
  obtain ⟨A', c', hv, h1, h2, h3, h4⟩ := h.form
  simp only [Value.slice.injEq] at hv
  obtain ⟨rfl, hn, rfl⟩ := hv
  refine ⟨hn.symm, fun hp => ?_⟩
  obtain ⟨g, rfl, _, hc⟩ := h4 (by omega)
  refine ⟨_, rfl, fun j u hj => ?_⟩
  obtain ⟨hjl, e⟩ := List.getElem?_eq_some_iff.1 hj
  have h9 := hc j hjl
  have e2 : (⟨g, 0, none⟩ : Addr).add j = ⟨g, 0 + j, none⟩ := by unfold Addr.add; split <;> simp_all
  rw [← e, e2]
  exact h9

theorem Forest.one {w : World} {bd lo r : Nat} {x : List UInt8} {hv tv : Value} (hn : Node w r hv (.pointer none) (.pointer none) (.pointer none)) (hh : HashIn w bd hv (leafS x)) (hlo : lo ≤ r) (ho : Own w lo 74 tv [ptrV r]) : Forest w bd lo tv [x] r := by
  refine ⟨[r], ho, ⟨rfl, fun i h h2 => ?_⟩, hlo, hv, hn, by rw [rootS_one]; exact hh⟩
  have hi : i = 0 := by simpa using h
  subst hi
  exact ⟨⟨hv, _, _, _, hn, hh⟩, hlo, Nat.le_refl _, by rw [auntsS_one _ _ (by simp)]; exact rfl⟩

set_option maxHeartbeats 4000000 in
/-- two trees of nodes and a new root above them -/
theorem Forest.join {w2 w3 w9 : World} {bd lo lo2 rl rr : Nat} {tl tv hroot : Value} {L : List (List UInt8)} {pl pr : List Nat} (hL : 2 ≤ L.length) (hbl : bd < lo) (hlo : lo ≤ lo2)
    (ol : Own w2 lo 74 tl (pl.map ptrV)) (hpl : Trails w2 bd lo rl pl (L.take (splt L.length))) (hrl : lo ≤ rl) (nl : RootN w2 bd rl (rootS (L.take (splt L.length))))
    (hpr : Trails w2 bd lo2 rr pr (L.drop (splt L.length))) (hrr : lo2 ≤ rr) (nr : RootN w2 bd rr (rootS (L.drop (splt L.length)))) (hlr : rl < lo2)
    (k23 : Kp (fun j => j = bd) w2 w3) (hh : HashIn w3 bd hroot (rootS L)) (k89 : Kp (fun j => some j = tl.ownBlock) (joinW w3 rl rr hroot) w9)
    (ho : Own w9 lo 74 tv (pl.map ptrV ++ pr.map ptrV)) : Forest w9 bd lo tv L w3.heap.size := by
  have hs := splt_lt L.length hL
  obtain ⟨hl, nl2, hhl⟩ := nl
  obtain ⟨hr, nr2, hhr⟩ := nr
  have nl3 := nl2.kp k23 (by omega)
  have nr3 := nr2.kp k23 (by omega)
  obtain ⟨jl, jr, jt⟩ := join_nodes (hroot := hroot) nl3 nr3 (by omega)
  have k38 := joinW_kp w3 rl rr hroot
  have l3 := lt_of_block nl3
  have r3 := lt_of_block nr3
  have ol8 : Own (joinW w3 rl rr hroot) lo 74 tl (pl.map ptrV) := (ol.kp k23 (fun b hb e => by have := (ol.lt b hb).1; omega)).kp k38 (fun b hb e => by
    rcases e with rfl | rfl
    · exact Own.notNode (ol.kp k23 (fun b hb e => by have := (ol.lt b hb).1; omega)) nl3 (by decide) hb
    · exact Own.notNode (ol.kp k23 (fun b hb e => by have := (ol.lt b hb).1; omega)) nr3 (by decide) hb)
  have n89 : ∀ j hv par le ri, Node (joinW w3 rl rr hroot) j hv par le ri → Node w9 j hv par le ri := fun j hv par le ri n => n.kp k89 (fun e => Own.notNode ol8 n (by decide) e.symm)
  have h29 : ∀ hs a, HashIn w2 bd hs a → HashIn w9 bd hs a := fun hs a h => by
    have h3 : HashIn w3 bd hs a := h.keep k23
    have h8 : HashIn (joinW w3 rl rr hroot) bd hs a := Own.kp h3 k38 (fun b hb e => by
      rcases e with rfl | rfl
      · exact Own.notNode h3 nl3 (by decide) hb
      · exact Own.notNode h3 nr3 (by decide) hb)
    refine Own.kp h8 k89 (fun b hb e => ?_)
    obtain ⟨_, cur, hc⟩ := Own.block h8 hb
    obtain ⟨_, cur2, hc2⟩ := Own.block ol8 e.symm
    rw [hc] at hc2
    simp at hc2
  have h39 : HashIn w9 bd hroot (rootS L) := by
    have h8 : HashIn (joinW w3 rl rr hroot) bd hroot (rootS L) := Own.kp hh k38 (fun b hb e => by
      rcases e with rfl | rfl
      · exact Own.notNode hh nl3 (by decide) hb
      · exact Own.notNode hh nr3 (by decide) hb)
    refine Own.kp h8 k89 (fun b hb e => ?_)
    obtain ⟨_, cur, hc⟩ := Own.block h8 hb
    obtain ⟨_, cur2, hc2⟩ := Own.block ol8 e.symm
    rw [hc] at hc2
    simp at hc2
  have mL : Moves w2 w9 bd lo rl := ⟨fun j hv par le ri h1 h2 n => n89 _ _ _ _ _ ((n.kp k23 (by omega)).kp k38 (by omega)), h29⟩
  have mR : Moves w2 w9 bd lo2 rr := ⟨fun j hv par le ri h1 h2 n => n89 _ _ _ _ _ ((n.kp k23 (by omega)).kp k38 (by omega)), h29⟩
  have jl9 := n89 _ _ _ _ _ jl
  have jr9 := n89 _ _ _ _ _ jr
  have jt9 := n89 _ _ _ _ _ jt
  refine ⟨pl ++ pr, by rw [List.map_append]; exact ho, ⟨?_, fun i h h2 => ?_⟩, by omega, hroot, jt9, h39⟩
  · rw [List.length_append, hpl.1, hpr.1, List.length_take, List.length_drop]; omega
  · have hp1 := hpl.1
    have hp2 := hpr.1
    rw [List.length_take] at hp1
    rw [List.length_drop] at hp2
    have ha := auntsS_more L i hL
    by_cases hi : i < splt L.length
    · rw [if_pos hi] at ha
      have hip : i < pl.length := by omega
      have e1 : (pl ++ pr)[i]'h = pl[i] := List.getElem_append_left hip
      have e2 : (L.take (splt L.length))[i]'(by rw [List.length_take]; omega) = L[i] := by simp
      have ht := hpl.2 i hip (by rw [List.length_take]; omega)
      rw [e2] at ht
      rw [e1, ha]
      exact ht.up mL (Nat.le_refl _) ⟨_, _, _, nl2⟩ jl9 (.inr ⟨rfl, rfl⟩) (by omega) (by omega) (by omega) jr9 (h29 _ _ hhr)
    · rw [if_neg hi] at ha
      have hpls : pl.length = splt L.length := by omega
      obtain ⟨j, hj⟩ : ∃ j, j = i - splt L.length := ⟨_, rfl⟩
      have hip : j < pr.length := by rw [List.length_append] at h; omega
      have e1 : (pl ++ pr)[i]'h = pr[j] := by
        rw [List.getElem_append_right (by omega)]; congr 1; omega
      have e2 : (L.drop (splt L.length))[j]'(by rw [List.length_drop]; omega) = L[i] := by
        rw [List.getElem_drop]; congr 1; omega
      have ht := hpr.2 j hip (by rw [List.length_drop]; omega)
      rw [e2] at ht
      rw [e1, ha, ← hj]
      exact ht.up mR hlo ⟨_, _, _, nr2⟩ jr9 (.inl rfl) (by omega) (by omega) (by omega) jl9 (h29 _ _ hhl)
end Go.Proofs.YtfodkjpjejoemaaGreatDoor

/-
  Proofs of a tree's leaves: the package's recursion walked.
  Conditions: the argument reads as a list of slices of bytes, of one at least; SHA-256's table holds its numbers.
-/
namespace Go.Proofs.YtfodkjpjejoemaaGreatDoor
open Go Go.RowKit
attribute [local go_sem ↓] Go.wp_at_zero Go.wp_at_succ

theorem Trail.kp {w w' : World} {bd lo r p : Nat} {leaf : List UInt8} {As : List (List UInt8)} (h : Trail w bd lo r p leaf As) (k : Kp (fun j => j = bd) w w') (hb : bd < lo) : Trail w' bd lo r p leaf As := by
  obtain ⟨⟨hv, par, le, ri, n, hh⟩, g1, g2, hp⟩ := h
  have m : Moves w w' bd lo r := ⟨fun j hv par le ri h1 _ n => n.kp k (by omega), fun _ _ h => h.keep k⟩
  exact ⟨⟨hv, par, le, ri, n.kp k (by omega), hh.keep k⟩, g1, g2, m.path As p hp⟩
theorem Forest.kp {w w' : World} {bd lo r : Nat} {tv : Value} {L : List (List UInt8)} (h : Forest w bd lo tv L r) (k : Kp (fun j => j = bd) w w') (hb : bd < lo) : Forest w' bd lo tv L r := by
  obtain ⟨ps, ho, ht, hlo, hv, n, hh⟩ := h
  exact ⟨ps, ho.kp k (fun b hb' e => by have := (ho.lt b hb').1; omega), ⟨ht.1, fun i h h2 => (ht.2 i h h2).kp k hb⟩, hlo, hv, n.kp k (by omega), hh.keep k⟩
theorem Forest.lt {w : World} {bd lo r : Nat} {tv : Value} {L : List (List UInt8)} (h : Forest w bd lo tv L r) : r < w.heap.size := by
  obtain ⟨ps, _, _, _, hv, n, _⟩ := h
  exact lt_of_block n

theorem Node.on {w w' : World} {b : Nat} {hv par le ri : Value} (e : w' = w) (h : Node w b hv par le ri) : Node w' b hv par le ri := by rw [e]; exact h

set_option maxRecDepth 100000 in
set_option maxHeartbeats 1000000 in
theorem trails_n (bd : Nat) : ∀ (n : Nat) (L : List (List UInt8)) (v : Value) (w : World), L.length ≤ n → 1 ≤ L.length → MatB w bd v L → (∃ bs, Dg w bd bs) → KTab w → L.length ≤ 1000000 → (∀ x ∈ L, x.length ≤ 1073741824) →
    Calls Tryz.prog 40 #[hshV bd, v] w fun e w' => ∃ tv r, e = .returned (.tuple #[tv, ptrV r]) ∧ Forest w' bd w.heap.size tv L r ∧ (∃ bs, Dg w' bd bs) ∧ Kp (fun i => i = bd) w w' := by
  intro n
  induction n using Nat.strongRecOn with
  | _ n ih =>
  intro L v w hn hL1 hv hd hK hL hb
  have IH := Lib.hid ih
  have HV := Lib.hid hv
  have HD := Lib.hid hd
  have HK := Lib.hid hK
  have HBD := Lib.hid hb
  have hkb : 5 ≠ bd := by obtain ⟨bs, h⟩ := hd; exact h.ktab hK
  have HKB := Lib.hid hkb
  have hbdl : bd < w.heap.size := by obtain ⟨bs, h⟩ := hd; exact h.lt
  obtain ⟨A, c, rfl, h1, h2, h3, h4⟩ := hv.at_
  unfold maxLen at h2
  obtain ⟨HS, hHS⟩ : ∃ HS, HS = hshV bd := ⟨_, rfl⟩
  rw [← hHS] at IH ⊢
  have HHS := Lib.hid hHS
  clear ih h3 hb hv hd hK hkb hHS
  by_cases h11 : L.length = 1
  · obtain ⟨x, hLb⟩ : ∃ x, L = [x] := List.length_eq_one_iff.1 h11
    subst hLb
    obtain ⟨g, off, rfl, hc⟩ := h4 (by simp)
    obtain ⟨u, hu, hur⟩ := hc 0 (by simp)
    rw [Nat.add_zero] at hu
    have HU := Lib.hid (show Bys w bd u x from hur)
    have hbb := HBD.out x (by simp)
    clear hc hur h4 IH
    go_enter Tryz.func40, Tryz.ntmps40
    go_wp2_with (go_at_call 51
                 rw [HHS.out]
                 refine (leafHashOpt_any bd _ x _ HD.out HU.out HK.out hbb).mono ?_
                 rintro e w1 ⟨v1, rfl, hb1, hd1, hk1⟩
                 have HB1 := Lib.hid hb1
                 have HD1 := Lib.hid hd1
                 have HK1 := Lib.hid hk1
                 obtain ⟨A1, c1, rfl, -, -, -, -⟩ := hb1.form
                 clear hb1 hd1 hk1)
    go_ret2
    have hks : w.heap.size ≤ w1.heap.size := HK1.out.size
    obtain ⟨N1, hN1⟩ : ∃ N1, N1 = (leafS x).length := ⟨_, rfl⟩
    rw [List.length_map] at HB1
    rw [← hN1] at HB1 ⊢
    have ka : Keep w1 (w1.alloc (.cells #[.slice A1 N1 c1, .pointer none, .pointer none, .pointer none] 78)) := (Kp.refl _ _).alloc _
    have n1 : Node (w1.alloc (.cells #[.slice A1 N1 c1, .pointer none, .pointer none, .pointer none] 78)) w1.heap.size (.slice A1 N1 c1) (.pointer none) (.pointer none) (.pointer none) := heap_alloc_new _ _
    have hh1 : HashIn w1 bd (.slice A1 N1 c1) (leafS x) := HB1.out.down (by omega)
    obtain ⟨bs, hdg⟩ := HD1.out
    obtain ⟨w2, hw2⟩ : ∃ w2, w2 = w1.alloc (.cells #[.slice A1 N1 c1, .pointer none, .pointer none, .pointer none] 78) := ⟨_, rfl⟩
    have hw2s : w2.heap.size = w1.heap.size + 1 := by rw [hw2]; simp
    rw [← hw2] at ka n1 ⊢
    have kb : Keep w2 (w2.alloc (.cells [ptrV w1.heap.size].toArray 74)) := (Kp.refl _ _).alloc _
    have ho := Own.made w2 w.heap.size 74 [ptrV w1.heap.size] (by omega) (by simp [maxLen])
    rw [hw2s] at ho
    exact ⟨.slice (some ⟨w1.heap.size + 1, 0, none⟩) 1 1, w1.heap.size, rfl, Forest.one (n1.keep kb) ((hh1.keep' ka).keep' kb) hks ho, ⟨bs, (hdg.kp ka (fun x => x)).kp kb (fun x => x)⟩, HK1.out.trans (Kp.keep (ka.trans kb))⟩
  · have hm : 2 ≤ L.length := by omega
    have hs := splt_lt L.length hm
    have hroot := rootS_more L hm
    have hLl : 2 ≤ L.length := hm
    have HLL := Lib.hid hLl
    obtain ⟨K, hK⟩ : ∃ K, K = splt L.length := ⟨_, rfl⟩
    obtain ⟨N, hN⟩ : ∃ N, N = L.length := ⟨_, rfl⟩
    rw [← hK] at hs hroot
    obtain ⟨A1, c1, hs1, hm1⟩ := slc_to (P := Tryz.prog) Tryz.underlying22 szM HV.out.at_ K (by omega)
    obtain ⟨A2, c2, hs2, hm2⟩ := slc_from (P := Tryz.prog) Tryz.underlying22 szM HV.out.at_ K (by omega)
    have HM1 := Lib.hid hm1
    have HM2 := Lib.hid hm2
    have HR := Lib.hid hroot
    obtain ⟨M, hM⟩ : ∃ M, M = L.length - K := ⟨_, rfl⟩
    have hl1 : (L.take K).length = K := by rw [List.length_take]; omega
    have hl2 : (L.drop K).length = M := by rw [List.length_drop]; omega
    have HL1 := Lib.hid hl1
    have HL2 := Lib.hid hl2
    have HN := Lib.hid hN
    have HKS := Lib.hid hK
    rw [← hM] at hs2 HM2
    rw [← hN] at hs1 hs2 h1 hs hm hn hL1 h11 hM hL ⊢
    have hK1 : (N : Int) ≠ 0 := by omega
    have hK2 : (N : Int) ≠ 1 := by omega
    have e0 : ((N : Int) == 0) = false := by rw [beq_eq_false_iff_ne]; omega
    have e1 : ((N : Int) == 1) = false := by rw [beq_eq_false_iff_ne]; omega
    have hs3 := hs.1
    have hs4 := hs.2
    have hKM : K + M = N := by omega
    have HKM := Lib.hid hKM
    have hT : ∀ x ∈ L.take K, x.length ≤ 1073741824 := fun x hx => HBD.out x (List.mem_of_mem_take hx)
    have hD : ∀ x ∈ L.drop K, x.length ≤ 1073741824 := fun x hx => HBD.out x (List.mem_of_mem_drop hx)
    have C1 : Hid (∀ wx, Kp (fun i => i = bd) w wx → (∃ bs, Dg wx bd bs) → Calls Tryz.prog 40 #[HS, .slice A1 K c1] wx fun e w' => ∃ tv r, e = .returned (.tuple #[tv, ptrV r]) ∧ Forest w' bd wx.heap.size tv (L.take K) r ∧ (∃ bs, Dg w' bd bs) ∧ Kp (fun i => i = bd) wx w') :=
      Lib.hid fun wx kx dx => IH.out K (by omega) (L.take K) _ wx (by rw [HL1.out]; exact Nat.le_refl _) (by rw [HL1.out]; omega) (fun wy ky => HM1.out _ (HV.out _ (kx.trans ky))) dx (HK.out.later HKB.out kx) (by rw [HL1.out]; omega) hT
    have C2 : Hid (∀ wx, Kp (fun i => i = bd) w wx → (∃ bs, Dg wx bd bs) → Calls Tryz.prog 40 #[HS, .slice A2 M c2] wx fun e w' => ∃ tv r, e = .returned (.tuple #[tv, ptrV r]) ∧ Forest w' bd wx.heap.size tv (L.drop K) r ∧ (∃ bs, Dg w' bd bs) ∧ Kp (fun i => i = bd) wx w') :=
      Lib.hid fun wx kx dx => IH.out M (by omega) (L.drop K) _ wx (by rw [HL2.out]; exact Nat.le_refl _) (by rw [HL2.out]; omega) (fun wy ky => HM2.out _ (HV.out _ (kx.trans ky))) dx (HK.out.later HKB.out kx) (by rw [HL2.out]; omega) hD
    have HRL1 := Lib.hid (rootS_length (L.take K))
    have HRL2 := Lib.hid (rootS_length (L.drop K))
    clear IH HM1 HM2 hT hD HBD
    clear hl1 hl2 hN hK hm1 hm2 hroot h4 hs hM hLl hKM
    unfold ptrV at C1 C2
    go_enter Tryz.func40, Tryz.ntmps40
    go_wp2_with (go_at_call 52
                 refine (split_any N _ hm (by omega)).mono ?_
                 rintro e w' ⟨rfl, rfl⟩
                 rw [show splt N = K by rw [HKS.out, HN.out]])
    refine (C1.out _ (Kp.refl _ _) HD.out).mono ?_
    rintro e w1 ⟨tl, rl, rfl, hf1, hd1, hk1⟩
    have HF1 := Lib.hid hf1
    have HD1 := Lib.hid hd1
    have HK1 := Lib.hid hk1
    clear hf1 hd1 hk1
    go_wp2_with fail
    refine (C2.out _ HK1.out HD1.out).mono ?_
    rintro e w2 ⟨tr, rr, rfl, hf2, hd2, hk2⟩
    have hsz1 : w.heap.size ≤ w1.heap.size := HK1.out.size
    have hrl1 : rl < w1.heap.size := HF1.out.lt
    have HF2 := Lib.hid hf2
    have HD2 := Lib.hid hd2
    have HK2 := Lib.hid hk2
    have hg1 : Forest w2 bd w.heap.size tl (L.take K) rl := HF1.out.kp hk2 hbdl
    clear hf2 hd2 hk2
    obtain ⟨pl, ol, htl, hlo1, hvl, nl, hhl⟩ := hg1
    obtain ⟨pr, or, htr, hlo2, hvr, nr, hhr⟩ := HF2.out
    have hll : pl.length = K := htl.1.trans HL1.out
    have hlr : pr.length = M := htr.1.trans HL2.out
    obtain ⟨Al, cl, rfl, l1, l2, -, -⟩ := ol.form
    obtain ⟨Ar, cr, rfl, r1, r2, -, -⟩ := or.form
    have hAr : Hid (Ar = none → M = 0) := Lib.hid fun e => by
      obtain ⟨_, _, hv9, -, -, -, h9⟩ := or.form
      rcases Nat.eq_zero_or_pos M with h | h
      · exact h
      · obtain ⟨g9, hA9, _⟩ := h9 (by rw [List.length_map, hlr]; exact h)
        rw [hA9] at hv9
        simp only [Value.slice.injEq] at hv9
        rw [e] at hv9
        cases hv9.1
    obtain ⟨Ah, ch, rfl, -, -, -, -⟩ := hhl.form
    obtain ⟨Ag, cg, rfl, -, -, -, -⟩ := hhr.form
    unfold maxLen at l2 r2
    rw [List.length_map, hll] at ol
    rw [List.length_map, hlr] at or
    rw [List.length_map, hll] at l1
    rw [List.length_map, hlr] at r1
    rw [List.length_map, rootS_length] at nl nr hhl hhr
    simp only [List.length_map, hll, hlr]
    have HOL := Lib.hid ol
    have HOR := Lib.hid or
    have HTL := Lib.hid htl
    have HTR := Lib.hid htr
    have HNL := Lib.hid nl
    have HNR := Lib.hid nr
    have HHL := Lib.hid hhl
    have HHR := Lib.hid hhr
    have HPL := Lib.hid hll
    have HPR := Lib.hid hlr
    obtain ⟨d0, -, -, -⟩ := nl.cells
    obtain ⟨b0, -, -, -⟩ := nr.cells
    have hrr2 : rr < w2.heap.size := lt_of_block nr
    clear ol or htl htr nl nr hhl hhr hll hlr
    go_wp2_with fail
    go_region_with (first
      | (go_at_call 53
         rw [HHS.out]
         refine (innerHashOpt_any bd _ _ (rootS (L.take K)) (rootS (L.drop K)) _ (by obtain ⟨bs, h⟩ := HD2.out; exact ⟨bs, h.kp (Kp.refl (fun _ => False) w2).drew (fun x => x)⟩) ((Own.bys HHL.out (Nat.lt_succ_self bd)).later (Kp.refl _ w2).drew) ((Own.bys HHR.out (Nat.lt_succ_self bd)).later (Kp.refl _ w2).drew) ((HK.out.later HKB.out (HK1.out.trans HK2.out)).keep (Kp.refl (fun _ => False) w2).drew (fun x => x)) (by rw [HRL1.out]; omega) (by rw [HRL2.out]; omega)).mono ?_
         rintro e w3 ⟨vh, rfl, ho3, hd3, hk3⟩
         have HO3 := Lib.hid ho3
         have HD3 := Lib.hid hd3
         have HK3 : Hid (Kp (fun j => j = bd) w2 w3) := Lib.hid ((Kp.refl _ w2).drew.trans hk3)
         clear ho3 hd3 hk3))
    all_goals
      obtain ⟨Av, cv, rfl, -, -, -, -⟩ := HO3.out.form
      have hvl : ((innerS (rootS (L.take K)) (rootS (L.drop K))).map u8v).length = 32 := by rw [List.length_map]; unfold innerS; rw [sha_length]
      rw [hvl] at HO3 ⊢
      have nl3 := HNL.out.kp HK3.out (by omega)
      have nr3 := HNR.out.kp HK3.out (by omega)
      have sl3 := lt_of_block nl3
      have sr3 := lt_of_block nr3
      have hne : rl ≠ rr := by omega
      have hne2 : rr ≠ rl := by omega
      obtain ⟨w4, hw4⟩ : ∃ w4, w4 = w3.alloc (.cells #[.slice Av 32 cv, .pointer none, .pointer none, .pointer none] 78) := ⟨_, rfl⟩
      have HW4 := Lib.hid hw4
      have nl4 := Node.on hw4 (nl3.keep ((Kp.refl _ _).alloc _))
      have nr4 := Node.on hw4 (nr3.keep ((Kp.refl _ _).alloc _))
      obtain ⟨r3, hr3⟩ : ∃ r3, r3 = w3.heap.size := ⟨_, rfl⟩
      have HR3 := Lib.hid hr3
      have HN3L := Lib.hid nl3
      have HN3R := Lib.hid nr3
      clear nl3 nr3 hvl
      go_upto_region 7 with fail
      rw [← hw4, ← hr3]
      clear hw4 hr3
      have cc := nl4.cells.2.1
      have ff : w4.frozen? ⟨rl, 1, none⟩ = false := frozen_of_row _ _ _ _ _ nl4
      obtain ⟨w5, hw5⟩ : ∃ w5, w5 = w4.setCell ⟨rl, 1, none⟩ (.pointer (some ⟨r3, 0, none⟩)) := ⟨_, rfl⟩
      have HW5 := Lib.hid hw5
      have nl5 := Node.on hw5 (nl4.setPar)
      have nr5 := Node.on hw5 (nr4.other hne2)
      clear nl4 nr4
      go_upto_region 8 with fail
      rw [← hw5]
      clear hw5 cc ff
      have cc := nl5.cells.2.2.2
      have ff : w5.frozen? ⟨rl, 3, none⟩ = false := frozen_of_row _ _ _ _ _ nl5
      obtain ⟨w6, hw6⟩ : ∃ w6, w6 = w5.setCell ⟨rl, 3, none⟩ (.pointer (some ⟨rr, 0, none⟩)) := ⟨_, rfl⟩
      have HW6 := Lib.hid hw6
      have nr6 := Node.on hw6 (nr5.other hne2)
      clear nl5 nr5
      go_upto_region 9 with fail
      rw [← hw6]
      clear hw6 cc ff
      have cc := nr6.cells.2.1
      have ff : w6.frozen? ⟨rr, 1, none⟩ = false := frozen_of_row _ _ _ _ _ nr6
      obtain ⟨w7, hw7⟩ : ∃ w7, w7 = w6.setCell ⟨rr, 1, none⟩ (.pointer (some ⟨r3, 0, none⟩)) := ⟨_, rfl⟩
      have HW7 := Lib.hid hw7
      have nr7 := Node.on hw7 (nr6.setPar)
      clear nr6
      go_upto_region 10 with fail
      rw [← hw7]
      clear hw7 cc ff
      have cc := nr7.cells.2.2.1
      have ff : w7.frozen? ⟨rr, 2, none⟩ = false := frozen_of_row _ _ _ _ _ nr7
      obtain ⟨w8, hw8⟩ : ∃ w8, w8 = w7.setCell ⟨rr, 2, none⟩ (.pointer (some ⟨rl, 0, none⟩)) := ⟨_, rfl⟩
      have HW8 := Lib.hid hw8
      clear nr7
      go_upto_region 11 with fail
      rw [← hw8]
      clear hw8 cc ff
      have HJ : Hid (w8 = joinW w3 rl rr (.slice Av 32 cv)) := Lib.hid (by rw [HW8.out, HW7.out, HW6.out, HW5.out, HW4.out, HR3.out]; rfl)
      have hkj : Hid (Kp (fun j => j = rl ∨ j = rr) w3 w8) := Lib.hid (by rw [HJ.out]; exact joinW_kp _ _ _ _)
      have ol8 : Hid (Own w8 w.heap.size 74 (.slice Al K cl) (pl.map ptrV)) := Lib.hid (by
        have ol3 := HOL.out.kp HK3.out (fun b hb e => by have := (HOL.out.lt b hb).1; omega)
        refine ol3.kp hkj.out (fun b hb e => ?_)
        rcases e with rfl | rfl
        · exact Own.notNode ol3 HN3L.out (by decide) hb
        · exact Own.notNode ol3 HN3R.out (by decide) hb)
      have or8 : Hid (Own w8 w1.heap.size 74 (.slice Ar M cr) (pr.map ptrV)) := Lib.hid (by
        have or3 := HOR.out.kp HK3.out (fun b hb e => by have := (HOR.out.lt b hb).1; omega)
        refine or3.kp hkj.out (fun b hb e => ?_)
        rcases e with rfl | rfl
        · exact Own.notNode or3 HN3L.out (by decide) hb
        · exact Own.notNode or3 HN3R.out (by decide) hb)
      have hs8 : w3.heap.size ≤ w8.heap.size := hkj.out.size
      have hs23 : w2.heap.size ≤ w3.heap.size := HK3.out.size
      go_wp2_with (at_builtin
                   refine wpList_app (news := pr.map ptrV) rfl (.tmp 64) (.tmp 65) 73 rfl appN rfl ol8.out rfl or8.out.src (onePtr pr) hAr.out (by rw [List.length_map, HPL.out]; have := HKM.out; omega) (by omega) ?_
                   intro v9 w9 h9 hk9 _
                   have HV9 := Lib.hid h9
                   have HK9 := Lib.hid hk9
                   clear h9 hk9)
      go_ret2
      have e3 := HR3.out
      subst e3
      have hK9 : Kp (fun j => some j = (Value.slice Al K cl).ownBlock) w8 w9 := HK9.out
      have hob : ∀ j, some j = (Value.slice Al K cl).ownBlock → w.heap.size ≤ j := fun j e => (ol8.out.lt j e.symm).1
      have hfin : Forest w9 bd w.heap.size v9 L w3.heap.size := by
        have hroot := HR.out
        have hk := HKS.out
        subst hk
        refine Forest.join (tl := .slice Al (splt L.length) cl) (hroot := .slice Av 32 cv) HLL.out hbdl hsz1 HOL.out HTL.out hlo1 ⟨_, HNL.out, HHL.out⟩ HTR.out hlo2 ⟨_, HNR.out, HHR.out⟩ hrl1 HK3.out ?_ ?_ HV9.out
        · rw [hroot]; exact HO3.out.down (by show bd + 1 ≤ w2.heap.size; omega)
        · rw [← HJ.out]; exact hK9
      have hdg : ∃ bs, Dg w9 bd bs := by
        obtain ⟨bs, h⟩ := HD3.out
        exact ⟨bs, (h.kp hkj.out (by omega)).kp hK9 (fun e => by have := hob _ e; omega)⟩
      have hkk : Kp (fun i => i = bd) w w9 := (((HK1.out.trans HK2.out).trans HK3.out).trans' hkj.out (fun i hi e => by omega)).trans' hK9 (fun i hi e => by have := hob _ e; omega)
      exact ⟨v9, w3.heap.size, rfl, hfin, hdg, hkk⟩
end Go.Proofs.YtfodkjpjejoemaaGreatDoor
