/-
  The way from a leaf up, in plain Lean, and the specification's walked.
  Conditions: the arguments read as bytes; the numbers are in range.
-/
import Derived.Test.YtfodkjpjejoemaaDoorRoot8
namespace Go.Proofs.YtfodkjpjejoemaaDoor
open Go Go.RowKit
attribute [local go_sem ↓] Go.wp_at_zero Go.wp_at_succ

/-- the root to which a leaf leads with sums beside it, the topmost first -/
def climbR (leaf : List UInt8) : List (List UInt8) → Nat → Nat → Option (List UInt8)
  | [], total, _ => if total = 1 then some leaf else none
  | a :: r, total, i => if total = 1 then none else if i < splt total then (climbR leaf r (splt total) i).map (fun l => innerS l a) else (climbR leaf r (total - splt total) (i - splt total)).map (fun x => innerS a x)
/-- .. the one beside the leaf first -/
def climbS (leaf : List UInt8) (aunts : List (List UInt8)) (total i : Nat) : Option (List UInt8) := climbR leaf aunts.reverse total i
theorem climbS_one (leaf : List UInt8) (aunts : List (List UInt8)) (i : Nat) : climbS leaf aunts 1 i = if aunts.length = 0 then some leaf else none := by
  unfold climbS
  cases h : aunts.reverse with
  | nil =>
    have : aunts = [] := by simpa using h
    subst this; simp [climbR]
  | cons a r =>
    have : aunts.length = r.length + 1 := by rw [← List.length_reverse, h]; rfl
    rw [if_neg (by omega), climbR, if_pos rfl]
theorem climbS_nil (leaf : List UInt8) (total i : Nat) (h : total ≠ 1) : climbS leaf [] total i = none := by
  unfold climbS; rw [List.reverse_nil, climbR, if_neg h]
theorem climbS_last (leaf : List UInt8) (aunts : List (List UInt8)) (total i : Nat) (h : total ≠ 1) (m : Nat) (hm : aunts.length = m + 1) :
    climbS leaf aunts total i = if i < splt total then (climbS leaf (aunts.take m) (splt total) i).map (fun l => innerS l (aunts[m]'(by omega))) else (climbS leaf (aunts.take m) (total - splt total) (i - splt total)).map (fun x => innerS (aunts[m]'(by omega)) x) := by
  have e : aunts = aunts.take m ++ [aunts[m]'(by omega)] := by
    rw [← take_snoc2 aunts m (by omega), ← hm, List.take_length]
  have er : aunts.reverse = aunts[m]'(by omega) :: (aunts.take m).reverse := by
    conv => lhs; rw [e]
    rw [List.reverse_append]; rfl
  unfold climbS
  rw [er, climbR, if_neg h]

/-- what the specification's climb hands back -/
def EndsC (w : World) (r : Option (List UInt8)) (e : Ending) : Prop :=
  ∃ v x, e = .returned (.tuple #[v, .bool r.isSome]) ∧ Byts w v x ∧ x.length ≤ 1073741824 ∧ ∀ y, r = some y → x = y

set_option maxRecDepth 100000 in
set_option maxHeartbeats 2000000 in
theorem specClimb_n : ∀ (n : Nat) (aunts : List (List UInt8)) (leaf : List UInt8) (lv av : Value) (total i : Nat) (w : World), aunts.length ≤ n → Mat w av aunts → Byts w lv leaf → 1 ≤ total → total ≤ 9223372036854775807 → i < total → leaf.length ≤ 1073741824 → (∀ a ∈ aunts, a.length ≤ 1073741824) →
    Calls Tryd.prog 70 #[.int .i64 total, .int .i64 i, lv, av] w fun e w' => EndsC w' (climbS leaf aunts total i) e ∧ Keep w w' := by
  intro n
  induction n using Nat.strongRecOn with
  | _ n ih =>
  intro aunts leaf lv av total i w hn ha hl ht1 ht2 hit hll hal
  have IH := Lib.hid ih
  have HA := Lib.hid ha
  have HLF := Lib.hid hl
  have HAL := Lib.hid hal
  obtain ⟨A, c, rfl, a1, a2, a3, a4⟩ := ha
  obtain ⟨B, d, rfl, -, -, -, -⟩ := hl
  unfold maxLen at a2
  clear ih hal a3
  by_cases h1 : total = 1
  · subst h1
    have hcs := climbS_one leaf aunts i
    have HCS := Lib.hid hcs
    by_cases h0 : aunts.length = 0
    · have e0 : ((aunts.length : Int) == 0) = true := by rw [beq_iff_eq]; omega
      rw [if_pos h0] at HCS
      clear hcs h0 a4 IH
      go_enter Tryd.func70, Tryd.ntmps70
      go_wp2_with fail
      go_ret2
      rw [HCS.out]
      exact ⟨⟨_, leaf, rfl, HLF.out, hll, fun y hy => by cases hy; rfl⟩, Kp.refl _ _⟩
    · have e0 : ((aunts.length : Int) == 0) = false := by rw [beq_eq_false_iff_ne]; omega
      rw [if_neg h0] at HCS
      clear hcs h0 a4 IH
      go_enter Tryd.func70, Tryd.ntmps70
      go_wp2_with fail
      go_ret2
      rw [HCS.out]
      exact ⟨⟨_, leaf, rfl, HLF.out, hll, fun y hy => by cases hy⟩, Kp.refl _ _⟩
  · have e1 : ((total : Int) == 1) = false := by rw [beq_eq_false_iff_ne]; omega
    by_cases h0 : aunts.length = 0
    · have e0 : ((aunts.length : Int) == 0) = true := by rw [beq_iff_eq]; omega
      obtain rfl : aunts = [] := List.eq_nil_of_length_eq_zero h0
      have hcs := climbS_nil leaf total i h1
      have HCS := Lib.hid hcs
      clear hcs h0 a4 IH
      go_enter Tryd.func70, Tryd.ntmps70
      go_wp2_with fail
      go_ret2
      rw [HCS.out]
      exact ⟨⟨_, [], rfl, Slc.nil_, by simp, fun y hy => by cases hy⟩, Kp.refl _ _⟩
    · have e0 : ((aunts.length : Int) == 0) = false := by rw [beq_eq_false_iff_ne]; omega
      obtain ⟨m, hm⟩ : ∃ m, m = aunts.length - 1 := ⟨_, rfl⟩
      have hm1 : aunts.length = m + 1 := by omega
      have hs := splt_lt total (by omega)
      have hcs := climbS_last leaf aunts total i h1 m hm1
      have HSP := Lib.hid (fun wx : World => specSplit_any total wx (by omega) ht2)
      obtain ⟨K, hK⟩ : ∃ K, K = splt total := ⟨_, rfl⟩
      rw [← hK] at hs hcs HSP
      obtain ⟨A1, c1, hs1, hmt⟩ := slc_to (P := Tryd.prog) Tryd.underlying23 szM HA.out m (by omega)
      have HMT := Lib.hid (hmt _ HA.out)
      obtain ⟨g, off, rfl, hc⟩ := a4 (by omega)
      obtain ⟨u, hu, hur⟩ := hc m (by omega)
      obtain ⟨a, haa⟩ : ∃ a, a = aunts[m]'(by omega) := ⟨_, rfl⟩
      rw [← haa] at hur hcs
      have HUR := Lib.hid (show Byts w u a from hur)
      have hab : a.length ≤ 1073741824 := by rw [haa]; exact HAL.out _ (List.getElem_mem _)
      have hatl : (aunts.take m).length = m := by rw [List.length_take]; omega
      have hata : ∀ x ∈ aunts.take m, x.length ≤ 1073741824 := fun x hx => HAL.out x (List.mem_of_mem_take hx)
      have HCS := Lib.hid hcs
      have hmi : (aunts.length : Int) - 1 = (m : Int) := by omega
      have hmb : (m : Int) < (aunts.length : Int) := by omega
      have hmb2 : m + 1 ≤ 9223372036854775807 := by omega
      obtain ⟨N, hN⟩ : ∃ N, N = aunts.length := ⟨_, rfl⟩
      rw [← hN] at hs1 e0 hmi hmb a1 ⊢
      by_cases hik : i < K
      · have C : Hid (∀ wx, Keep w wx → Calls Tryd.prog 70 #[.int .i64 (K : Int), .int .i64 (i : Int), .slice B leaf.length d, .slice A1 m c1] wx fun e w' => EndsC w' (climbS leaf (aunts.take m) K i) e ∧ Keep wx w') :=
          Lib.hid fun wx kx => IH.out m (by omega) (aunts.take m) leaf _ _ K i wx (by omega) (Mat.keep HMT.out kx) (Byts.keep HLF.out kx) (by omega) (by omega) hik hll hata
        rw [if_pos hik] at HCS
        have hiki : (i : Int) < (K : Int) := by omega
        clear IH hcs hK hmt hc hur haa hatl hata hm hm1 h0 hN hn
        go_enter Tryd.func70, Tryd.ntmps70
        go_wp2_with (go_at_call 31
                     refine (HSP.out _).mono ?_
                     rintro e w' ⟨rfl, rfl⟩)
        refine (C.out _ (Kp.refl _ _)).mono ?_
        rintro e w1 ⟨⟨v1, x1, rfl, hb1, hx1, hy1⟩, hk1⟩
        have HB1 := Lib.hid hb1
        have HK1 := Lib.hid hk1
        have HY1 := Lib.hid hy1
        have hu1 := hk1.cell_of hu (fun x => x)
        clear hb1 hk1 hy1
        go_wp2_with (go_at_call 63
                     refine (innerSum_any v1 u x1 a _ HB1.out (Byts.keep HUR.out HK1.out) hx1 hab).mono ?_
                     rintro e w2 ⟨v2, rfl, hb2, hk2⟩
                     have HB2 := Lib.hid hb2
                     have HK2 := Lib.hid (HK1.out.trans hk2)
                     clear hb2 hk2)
        go_ret2
        refine ⟨⟨v2, innerS x1 a, ?_, HB2.out, by unfold innerS; rw [sha_length]; omega, ?_⟩, HK2.out⟩
        · rw [HCS.out, Option.isSome_map]; rfl
        · intro y hy
          rw [HCS.out] at hy
          obtain ⟨z, hz, rfl⟩ := Option.map_eq_some_iff.1 hy
          rw [HY1.out z hz]
      · obtain ⟨T2, hT2⟩ : ∃ T2, T2 = total - K := ⟨_, rfl⟩
        obtain ⟨I2, hI2⟩ : ∃ I2, I2 = i - K := ⟨_, rfl⟩
        have C : Hid (∀ wx, Keep w wx → Calls Tryd.prog 70 #[.int .i64 (T2 : Int), .int .i64 (I2 : Int), .slice B leaf.length d, .slice A1 m c1] wx fun e w' => EndsC w' (climbS leaf (aunts.take m) T2 I2) e ∧ Keep wx w') :=
          Lib.hid fun wx kx => IH.out m (by omega) (aunts.take m) leaf _ _ T2 I2 wx (by omega) (Mat.keep HMT.out kx) (Byts.keep HLF.out kx) (by omega) (by omega) (by omega) hll hata
        rw [if_neg hik, ← hT2, ← hI2] at HCS
        have hiki : ¬ (i : Int) < (K : Int) := by omega
        have hti : (total : Int) - (K : Int) = (T2 : Int) := by omega
        have hii : (i : Int) - (K : Int) = (I2 : Int) := by omega
        have htb : T2 ≤ 9223372036854775807 := by omega
        have hib : I2 ≤ 9223372036854775807 := by omega
        clear IH hcs hK hmt hc hur haa hatl hata hm hm1 h0 hN hn hT2 hI2
        go_enter Tryd.func70, Tryd.ntmps70
        go_wp2_with (go_at_call 31
                     refine (HSP.out _).mono ?_
                     rintro e w' ⟨rfl, rfl⟩)
        refine (C.out _ (Kp.refl _ _)).mono ?_
        rintro e w1 ⟨⟨v1, x1, rfl, hb1, hx1, hy1⟩, hk1⟩
        have HB1 := Lib.hid hb1
        have HK1 := Lib.hid hk1
        have HY1 := Lib.hid hy1
        have hu1 := hk1.cell_of hu (fun x => x)
        clear hb1 hk1 hy1
        go_wp2_with (go_at_call 63
                     refine (innerSum_any u v1 a x1 _ (Byts.keep HUR.out HK1.out) HB1.out hab hx1).mono ?_
                     rintro e w2 ⟨v2, rfl, hb2, hk2⟩
                     have HB2 := Lib.hid hb2
                     have HK2 := Lib.hid (HK1.out.trans hk2)
                     clear hb2 hk2)
        go_ret2
        refine ⟨⟨v2, innerS a x1, ?_, HB2.out, by unfold innerS; rw [sha_length]; omega, ?_⟩, HK2.out⟩
        · rw [HCS.out, Option.isSome_map]; rfl
        · intro y hy
          rw [HCS.out] at hy
          obtain ⟨z, hz, rfl⟩ := Option.map_eq_some_iff.1 hy
          rw [HY1.out z hz]
end Go.Proofs.YtfodkjpjejoemaaDoor
