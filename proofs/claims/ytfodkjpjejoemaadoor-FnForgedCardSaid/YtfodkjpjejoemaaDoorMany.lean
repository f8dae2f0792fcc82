/-
  At most 300 items of at most 2,000 bytes: the laws' own cut, walked.
  Conditions: the argument reads as a list of slices of bytes.
-/
import Derived.Test.YtfodkjpjejoemaaDoorApps
import Derived.StillTailTactics
import Derived.Deep.RegionHeld3
import Derived.Deep.DrawnRows
namespace Go.Proofs.YtfodkjpjejoemaaDoor
open Go Go.RowKit
attribute [local go_sem ↓] Go.wp_at_zero Go.wp_at_succ

def manyL (L : List (List UInt8)) : List (List UInt8) := (L.take 300).map fun b => b.take 2000
theorem manyL_length (L : List (List UInt8)) : (manyL L).length ≤ 300 := by unfold manyL; rw [List.length_map, List.length_take]; omega
theorem manyL_part (L : List (List UInt8)) : ∀ b ∈ manyL L, b.length ≤ 2000 := fun b hb => by
  obtain ⟨x, _, rfl⟩ := List.mem_map.1 hb
  rw [List.length_take]; omega

set_option maxHeartbeats 2000000 in
theorem many_any (v : Value) (L : List (List UInt8)) (w : World) (hv : Mat w v L) :
    Calls Tryd.prog 27 #[v] w fun e w' => ∃ v', e = .returned v' ∧ Mat w' v' (manyL L) ∧ Keep w w' := by
  obtain ⟨m, hm⟩ : ∃ m : Nat, m = min L.length 300 := ⟨_, rfl⟩
  have HV := Lib.hid hv
  obtain ⟨A, c, rfl, h1, h2, h3, h4⟩ := hv
  have hmin : min (L.length : Int) 300 = (m : Int) := by omega
  obtain ⟨A1, c1, hs1, hm1⟩ := slc_to (P := Tryd.prog) Tryd.underlying23 szM HV.out m (by omega)
  have HM1 := Lib.hid (hm1 _ HV.out)
  have hml : (L.take m).length = m := by rw [List.length_take]; omega
  have HMany : Hid (manyL L = (L.take m).map fun b => b.take 2000) := Lib.hid (by
    unfold manyL
    congr 1
    rw [hm]
    rcases Nat.le_total L.length 300 with h | h
    · rw [Nat.min_eq_left h, List.take_of_length_le h, List.take_of_length_le (Nat.le_refl _)]
    · rw [Nat.min_eq_right h])
  unfold maxLen at h2
  have hm300 : m ≤ 300 := by omega
  have hmL : m ≤ L.length := by omega
  obtain ⟨T, hT⟩ : ∃ T, T = L.take m := ⟨_, rfl⟩
  rw [← hT] at HM1 hml HMany
  have HML := Lib.hid hml
  clear h3 h4 hm hm1 hml hT
  go_enter Tryd.func27, Tryd.ntmps27
  go_wp2_with fail
  go_loopw [3, 12] (fun ov iv wr => ∃ (i : Nat) (vals : List Value), i ≤ m ∧ iv = .int .i64 i ∧ vals.length = i ∧ Own wr w.heap.size 22 ov vals ∧ (∀ k (h : k < vals.length) (h2 : k < T.length), Byts w vals[k] (T[k].take 2000)) ∧ Keep w wr) (fun _ iv _ => m - (intOf iv).toNat)
  case atStart => exact ⟨0, [], Nat.zero_le _, rfl, rfl, Own.nil_ _ _ _, fun k h => absurd h (by simp), Kp.refl _ _⟩
  case round =>
    obtain ⟨i, vals, hi, rfl, hvl, hown, hby, hkp⟩ := hrel
    have HVL := Lib.hid hvl
    have HW := Lib.hid hown
    have HBY := Lib.hid hby
    have HKP := Lib.hid hkp
    obtain ⟨A2, c2, rfl, f1, f2, f3, f4⟩ := hown.form
    rw [hvl] at f1 HW ⊢
    unfold maxLen at f2
    clear hvl hown hby hkp f3 f4
    by_cases hlt : i < m
    · have hiT : i < T.length := by rw [HML.out]; exact hlt
      have hmat := HM1.out.of_eq.2.2.2.2
      obtain ⟨g, off, rfl, hc⟩ := hmat (by omega)
      obtain ⟨u, hu, hur⟩ := hc i hiT
      have hu2 := HKP.out.cell_of hu (fun x => x)
      obtain ⟨x, hx⟩ : ∃ x, x = T[i] := ⟨_, rfl⟩
      rw [← hx] at hur
      have HX := Lib.hid hx
      have HUR := Lib.hid hur
      obtain ⟨m2, hm2⟩ : ∃ m2 : Nat, m2 = min x.length 2000 := ⟨_, rfl⟩
      obtain ⟨A3, c3, rfl, g1, g2, g3, g4⟩ := hur
      have hmin2 : min (x.length : Int) 2000 = (m2 : Int) := by omega
      obtain ⟨A4, c4, hs4, hm4⟩ := slc_to (P := Tryd.prog) Tryd.underlying22 szB HUR.out m2 (by omega)
      have HB4 : Hid (Byts w (.slice A4 m2 c4) (x.take 2000)) := Lib.hid (by
        have h9 := hm4 _ HUR.out
        rw [hm2] at h9 ⊢
        rcases Nat.le_total x.length 2000 with h | h
        · rw [Nat.min_eq_left h] at h9 ⊢
          rw [List.take_of_length_le (Nat.le_refl _)] at h9
          rw [List.take_of_length_le h]
          exact h9
        · rw [Nat.min_eq_right h] at h9 ⊢
          exact h9)
      have hm2x : m2 ≤ x.length := by omega
      unfold maxLen at g2
      clear hmat hc hu hx hm2 g3 g4 hm4
      go_wp2_with (at_builtin
                   refine wpList_app (news := [.slice A4 m2 c4]) rfl (.tmp 16) (.tmp 22) 23 rfl appM rfl (HW.out.alloc _) rfl (Src.one (by simp)) (by intro u hu; simp at hu; subst hu; rfl) (fun e => by cases e) (by rw [HVL.out]; omega) (by have := HKP.out.size; simp; omega) ?_
                   intro v2 w2 h2 hk2 _
                   have HV2 := Lib.hid h2
                   have HK2 := Lib.hid hk2
                   clear h2 hk2)
      go_roundw
      case rel =>
        refine ⟨i + 1, vals ++ [.slice A4 m2 c4], hlt, by go_num, by simp [HVL.out], HV2.out, ?_, (HKP.out.alloc _).trans' HK2.out (fun j hj e => by have := (HW.out.lt j e.symm).1; omega)⟩
        intro k hk hk2
        by_cases hki : k < vals.length
        · rw [List.getElem_append_left hki]
          exact HBY.out k hki hk2
        · have hkv : k = i := by simp at hk; have := HVL.out; omega
          have e1 : (vals ++ [Value.slice A4 m2 c4])[k]'hk = .slice A4 m2 c4 := by
            rw [List.getElem_append_right (by omega)]; simp
          subst hkv
          rw [e1, ← HX.out]
          exact HB4.out
      case measure => simp [intOf]; omega
    · obtain rfl : i = m := by omega
      go_wp2_with fail
      go_ret
      refine ⟨_, rfl, ?_, HKP.out⟩
      rw [HMany.out]
      exact HW.out.slc (by rw [HVL.out, List.length_map, HML.out]) fun k h h' => by
        rw [List.getElem_map]
        exact Byts.keep (HBY.out k h (by simpa using h')) HKP.out
end Go.Proofs.YtfodkjpjejoemaaDoor
