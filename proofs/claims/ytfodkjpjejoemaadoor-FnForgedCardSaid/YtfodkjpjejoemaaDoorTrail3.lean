/-
  Proofs of a tree's leaves: the package's tree of nodes walked.
  Conditions: the argument reads as a list of slices of bytes, of one at least; SHA-256's table holds its numbers.
-/
import Derived.Test.YtfodkjpjejoemaaDoorTrail2
namespace Go.Proofs.YtfodkjpjejoemaaDoor
open Go Go.RowKit
attribute [local go_sem ↓] Go.wp_at_zero Go.wp_at_succ

theorem appN : AppOk Tryd.prog 143 144 8 := by
  obtain ⟨i0, hi, hz0, hz1, hz2⟩ := info_parts (show (Tryd.prog.info? 144).map (fun i => (i.zero, i.size, i.bytes)) = some (some (.pointer none), 1, 8) by kernel_rfl)
  exact ⟨Tryd.underlying143, by omega, i0, _, hi, hz0, hz1, hz2, rfl⟩
theorem onePtr (ps : List Nat) : ∀ u ∈ ps.map ptrV, u.oneCell' = true := by
  intro u hu; obtain ⟨x, _, rfl⟩ := List.mem_map.1 hu; rfl
theorem Own.src {w : World} {base : Nat} {e : TypeId} {A : Option Addr} {n c : Nat} {ps : List Nat} (h : Own w base e (.slice A n c) (ps.map ptrV)) : Src w A n (ps.map ptrV) := by
  obtain ⟨A', c', hv, h1, h2, h3, h4⟩ := h.form
  simp only [Value.slice.injEq] at hv
  obtain ⟨rfl, hn, rfl⟩ := hv
  refine ⟨hn.symm, fun hp => ?_⟩
  obtain ⟨g, rfl, _, hc⟩ := h4 (by omega)
  refine ⟨_, rfl, fun j u hj => ?_⟩
  obtain ⟨hjl, e⟩ := List.getElem?_eq_some_iff.1 hj
  have h9 := hc j hjl
  have e2 : (⟨g, 0, none⟩ : Addr).add j = ⟨g, 0 + j, none⟩ := by unfold Addr.add; split <;> simp_all
  rw [← e, e2]
  exact h9

theorem Forest.one {w : World} {bd lo r : Nat} {x : List UInt8} {hv tv : Value} (hn : Node w r hv (.pointer none) (.pointer none) (.pointer none)) (hh : HashIn w bd hv (leafS x)) (hlo : lo ≤ r) (ho : Own w lo 144 tv [ptrV r]) : Forest w bd lo tv [x] r := by
  refine ⟨[r], ho, ⟨rfl, fun i h h2 => ?_⟩, hlo, hv, hn, by rw [rootS_one]; exact hh⟩
  have hi : i = 0 := by simpa using h
  subst hi
  exact ⟨⟨hv, _, _, _, hn, hh⟩, hlo, Nat.le_refl _, by rw [auntsS_one _ _ (by simp)]; exact rfl⟩

set_option maxHeartbeats 4000000 in
/-- two trees of nodes and a new root above them -/
theorem Forest.join {w2 w3 w9 : World} {bd lo lo2 rl rr : Nat} {tl tv hroot : Value} {L : List (List UInt8)} {pl pr : List Nat} (hL : 2 ≤ L.length) (hbl : bd < lo) (hlo : lo ≤ lo2)
    (ol : Own w2 lo 144 tl (pl.map ptrV)) (hpl : Trails w2 bd lo rl pl (L.take (splt L.length))) (hrl : lo ≤ rl) (nl : RootN w2 bd rl (rootS (L.take (splt L.length))))
    (hpr : Trails w2 bd lo2 rr pr (L.drop (splt L.length))) (hrr : lo2 ≤ rr) (nr : RootN w2 bd rr (rootS (L.drop (splt L.length)))) (hlr : rl < lo2)
    (k23 : Kp (fun j => j = bd) w2 w3) (hh : HashIn w3 bd hroot (rootS L)) (k89 : Kp (fun j => some j = tl.ownBlock) (joinW w3 rl rr hroot) w9)
    (ho : Own w9 lo 144 tv (pl.map ptrV ++ pr.map ptrV)) : Forest w9 bd lo tv L w3.heap.size := by
  have hs := splt_lt L.length hL
  obtain ⟨hl, nl2, hhl⟩ := nl
  obtain ⟨hr, nr2, hhr⟩ := nr
  have nl3 := nl2.kp k23 (by omega)
  have nr3 := nr2.kp k23 (by omega)
  obtain ⟨jl, jr, jt⟩ := join_nodes (hroot := hroot) nl3 nr3 (by omega)
  have k38 := joinW_kp w3 rl rr hroot
  have l3 := lt_of_block nl3
  have r3 := lt_of_block nr3
  have ol8 : Own (joinW w3 rl rr hroot) lo 144 tl (pl.map ptrV) := (ol.kp k23 (fun b hb e => by have := (ol.lt b hb).1; omega)).kp k38 (fun b hb e => by
    rcases e with rfl | rfl
    · exact Own.notNode (ol.kp k23 (fun b hb e => by have := (ol.lt b hb).1; omega)) nl3 (by decide) hb
    · exact Own.notNode (ol.kp k23 (fun b hb e => by have := (ol.lt b hb).1; omega)) nr3 (by decide) hb)
  have n89 : ∀ j hv par le ri, Node (joinW w3 rl rr hroot) j hv par le ri → Node w9 j hv par le ri := fun j hv par le ri n => n.kp k89 (fun e => Own.notNode ol8 n (by decide) e.symm)
  have h29 : ∀ hs a, HashIn w2 bd hs a → HashIn w9 bd hs a := fun hs a h => by
    have h3 : HashIn w3 bd hs a := h.keep k23
    have h8 : HashIn (joinW w3 rl rr hroot) bd hs a := Own.kp h3 k38 (fun b hb e => by
      rcases e with rfl | rfl
      · exact Own.notNode h3 nl3 (by decide) hb
      · exact Own.notNode h3 nr3 (by decide) hb)
    refine Own.kp h8 k89 (fun b hb e => ?_)
    obtain ⟨_, cur, hc⟩ := Own.block h8 hb
    obtain ⟨_, cur2, hc2⟩ := Own.block ol8 e.symm
    rw [hc] at hc2
    simp at hc2
  have h39 : HashIn w9 bd hroot (rootS L) := by
    have h8 : HashIn (joinW w3 rl rr hroot) bd hroot (rootS L) := Own.kp hh k38 (fun b hb e => by
      rcases e with rfl | rfl
      · exact Own.notNode hh nl3 (by decide) hb
      · exact Own.notNode hh nr3 (by decide) hb)
    refine Own.kp h8 k89 (fun b hb e => ?_)
    obtain ⟨_, cur, hc⟩ := Own.block h8 hb
    obtain ⟨_, cur2, hc2⟩ := Own.block ol8 e.symm
    rw [hc] at hc2
    simp at hc2
  have mL : Moves w2 w9 bd lo rl := ⟨fun j hv par le ri h1 h2 n => n89 _ _ _ _ _ ((n.kp k23 (by omega)).kp k38 (by omega)), h29⟩
  have mR : Moves w2 w9 bd lo2 rr := ⟨fun j hv par le ri h1 h2 n => n89 _ _ _ _ _ ((n.kp k23 (by omega)).kp k38 (by omega)), h29⟩
  have jl9 := n89 _ _ _ _ _ jl
  have jr9 := n89 _ _ _ _ _ jr
  have jt9 := n89 _ _ _ _ _ jt
  refine ⟨pl ++ pr, by rw [List.map_append]; exact ho, ⟨?_, fun i h h2 => ?_⟩, by omega, hroot, jt9, h39⟩
  · rw [List.length_append, hpl.1, hpr.1, List.length_take, List.length_drop]; omega
  · have hp1 := hpl.1
    have hp2 := hpr.1
    rw [List.length_take] at hp1
    rw [List.length_drop] at hp2
    have ha := auntsS_more L i hL
    by_cases hi : i < splt L.length
    · rw [if_pos hi] at ha
      have hip : i < pl.length := by omega
      have e1 : (pl ++ pr)[i]'h = pl[i] := List.getElem_append_left hip
      have e2 : (L.take (splt L.length))[i]'(by rw [List.length_take]; omega) = L[i] := by simp
      have ht := hpl.2 i hip (by rw [List.length_take]; omega)
      rw [e2] at ht
      rw [e1, ha]
      exact ht.up mL (Nat.le_refl _) ⟨_, _, _, nl2⟩ jl9 (.inr ⟨rfl, rfl⟩) (by omega) (by omega) (by omega) jr9 (h29 _ _ hhr)
    · rw [if_neg hi] at ha
      have hpls : pl.length = splt L.length := by omega
      obtain ⟨j, hj⟩ : ∃ j, j = i - splt L.length := ⟨_, rfl⟩
      have hip : j < pr.length := by rw [List.length_append] at h; omega
      have e1 : (pl ++ pr)[i]'h = pr[j] := by
        rw [List.getElem_append_right (by omega)]; congr 1; omega
      have e2 : (L.drop (splt L.length))[j]'(by rw [List.length_drop]; omega) = L[i] := by
        rw [List.getElem_drop]; congr 1; omega
      have ht := hpr.2 j hip (by rw [List.length_drop]; omega)
      rw [e2] at ht
      rw [e1, ha, ← hj]
      exact ht.up mR hlo ⟨_, _, _, nr2⟩ jr9 (.inl rfl) (by omega) (by omega) (by omega) jl9 (h29 _ _ hhl)
end Go.Proofs.YtfodkjpjejoemaaDoor
