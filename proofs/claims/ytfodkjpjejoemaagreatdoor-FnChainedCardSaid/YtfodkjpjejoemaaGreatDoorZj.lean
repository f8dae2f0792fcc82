
/-
  The way from a leaf up, in plain Lean, and the specification's walked.
  Conditions: the arguments read as bytes; the numbers are in range.
-/
import Derived.Test.YtfodkjpjejoemaaGreatDoorZh
import Derived.Test.YtfodkjpjejoemaaGreatDoorZa
namespace Go.Proofs.YtfodkjpjejoemaaGreatDoor
open Go Go.RowKit
attribute [local go_sem ↓] Go.wp_at_zero Go.wp_at_succ

/-- the root to which a leaf leads with sums beside it, the topmost first -/
def climbR (leaf : List UInt8) : List (List UInt8) → Nat → Nat → Option (List UInt8)
  | [], total, _ => if total = 1 then some leaf else none
  | a :: r, total, i => if total = 1 then none else if i < splt total then (climbR leaf r (splt total) i).map (fun l => innerS l a) else (climbR leaf r (total - splt total) (i - splt total)).map (fun x => innerS a x)
/-- .. the one beside the leaf first -/
def climbS (leaf : List UInt8) (aunts : List (List UInt8)) (total i : Nat) : Option (List UInt8) := climbR leaf aunts.reverse total i
theorem climbS_one (leaf : List UInt8) (aunts : List (List UInt8)) (i : Nat) : climbS leaf aunts 1 i = if aunts.length = 0 then some leaf else none := by
  unfold climbS
  cases h : aunts.reverse with
  | nil =>
    have : aunts = [] := by simpa using h
    subst this; simp [climbR]
  | cons a r =>
    have : aunts.length = r.length + 1 := by rw [← List.length_reverse, h]; rfl
    rw [if_neg (by omega), climbR, if_pos rfl]
theorem climbS_nil (leaf : List UInt8) (total i : Nat) (h : total ≠ 1) : climbS leaf [] total i = none := by
  unfold climbS; rw [List.reverse_nil, climbR, if_neg h]
theorem climbS_last (leaf : List UInt8) (aunts : List (List UInt8)) (total i : Nat) (h : total ≠ 1) (m : Nat) (hm : aunts.length = m + 1) :
    climbS leaf aunts total i = if i < splt total then (climbS leaf (aunts.take m) (splt total) i).map (fun l => innerS l (aunts[m]'(by omega))) else (climbS leaf (aunts.take m) (total - splt total) (i - splt total)).map (fun x => innerS (aunts[m]'(by omega)) x) := by
  have e : aunts = aunts.take m ++ [aunts[m]'(by omega)] := by
    rw [← take_snoc2 aunts m (by omega), ← hm, List.take_length]
  have er : aunts.reverse = aunts[m]'(by omega) :: (aunts.take m).reverse := by
    conv => lhs; rw [e]
    rw [List.reverse_append]; rfl
  unfold climbS
  rw [er, climbR, if_neg h]

/-- what the specification's climb hands back -/
def EndsC (w : World) (r : Option (List UInt8)) (e : Ending) : Prop :=
  ∃ v x, e = .returned (.tuple #[v, .bool r.isSome]) ∧ Byts w v x ∧ x.length ≤ 1073741824 ∧ ∀ y, r = some y → x = y

end Go.Proofs.YtfodkjpjejoemaaGreatDoor

/-
  The way from a leaf up: the package's own, walked.
  Conditions: the arguments read as bytes; the numbers are in range; SHA-256's table holds its numbers.
-/
namespace Go.Proofs.YtfodkjpjejoemaaGreatDoor
open Go Go.RowKit
attribute [local go_sem ↓] Go.wp_at_zero Go.wp_at_succ

/-- what the package's climb hands back: the root, or an error -/
def EndsH (w : World) (b : Nat) (r : Option (List UInt8)) (e : Ending) : Prop :=
  match r with
  | some y => ∃ v, e = .returned (.tuple #[v, .nilIface]) ∧ Bys w b v y ∧ y.length ≤ 1073741824
  | none => ∃ t x, e = .returned (.tuple #[.slice none 0 0, .iface t x])

set_option maxRecDepth 100000 in
set_option maxHeartbeats 4000000 in
theorem comp_n (b : Nat) : ∀ (n : Nat) (aunts : List (List UInt8)) (leaf : List UInt8) (lv av : Value) (total i : Nat) (w : World), aunts.length ≤ n → MatB w b av aunts → Bys w b lv leaf → (∃ bs, Dg w b bs) → KTab w → 1 ≤ total → total ≤ 9223372036854775807 → i < total → leaf.length ≤ 1073741824 → (∀ a ∈ aunts, a.length ≤ 1073741824) →
    Calls Tryz.prog 128 #[hshV b, .int .i64 i, .int .i64 total, lv, av] w fun e w' => EndsH w' b (climbS leaf aunts total i) e ∧ (∃ bs, Dg w' b bs) ∧ Kp (fun j => j = b) w w' := by
  intro n
  induction n using Nat.strongRecOn with
  | _ n ih =>
  intro aunts leaf lv av total i w hn ha hl hd hK ht1 ht2 hit hll hal
  have IH := Lib.hid ih
  have HA := Lib.hid ha
  have HLF := Lib.hid hl
  have HAL := Lib.hid hal
  have HD := Lib.hid hd
  have HKT := Lib.hid hK
  have hkb : 5 ≠ b := by obtain ⟨bs, h⟩ := hd; exact h.ktab hK
  have HKB := Lib.hid hkb
  obtain ⟨A, c, rfl, a1, a2, a3, a4⟩ := ha.at_
  obtain ⟨B, d, rfl, -, -, -, -⟩ := hl.at_
  unfold maxLen at a2
  obtain ⟨HS, hHS⟩ : ∃ HS, HS = hshV b := ⟨_, rfl⟩
  rw [← hHS] at IH ⊢
  have HHS := Lib.hid hHS
  have hiti : ¬ (total : Int) ≤ (i : Int) := by omega
  have hi0 : ¬ (i : Int) < 0 := by omega
  have ht0 : ¬ (total : Int) ≤ 0 := by omega
  have e00 : ((total : Int) == 0) = false := by rw [beq_eq_false_iff_ne]; omega
  clear ih hal a3 ha hl hd hK hkb hHS
  by_cases h1 : total = 1
  · subst h1
    have hcs := climbS_one leaf aunts i
    have HCS := Lib.hid hcs
    by_cases h0 : aunts.length = 0
    · have e0 : ((aunts.length : Int) != 0) = false := by simp [h0]
      rw [if_pos h0] at HCS
      clear hcs h0 a4 IH
      go_enter Tryz.func128, Tryz.ntmps128
      go_wp2_with fail
      go_ret2
      rw [HCS.out]
      exact ⟨⟨_, rfl, HLF.out, hll⟩, HD.out, Kp.refl _ _⟩
    · have e0 : ((aunts.length : Int) != 0) = true := by rw [bne_iff_ne]; omega
      rw [if_neg h0] at HCS
      clear hcs h0 a4 IH
      go_enter Tryz.func128, Tryz.ntmps128
      go_wp2_with (go_at_call 57; refine (errNew2_any _ _).mono ?_; rintro e w1 ⟨⟨x, rfl⟩, hk1⟩)
      go_ret2
      rw [HCS.out]
      obtain ⟨bs, h⟩ := HD.out
      exact ⟨⟨_, _, rfl⟩, ⟨bs, h.kp hk1 (fun x => x)⟩, hk1.keep⟩
  · have e1 : ((total : Int) == 1) = false := by rw [beq_eq_false_iff_ne]; omega
    by_cases h0 : aunts.length = 0
    · have e0 : ((aunts.length : Int) == 0) = true := by rw [beq_iff_eq]; omega
      obtain rfl : aunts = [] := List.eq_nil_of_length_eq_zero h0
      have hcs := climbS_nil leaf total i h1
      have HCS := Lib.hid hcs
      clear hcs h0 a4 IH
      go_enter Tryz.func128, Tryz.ntmps128
      go_wp2_with (go_at_call 57; refine (errNew2_any _ _).mono ?_; rintro e w1 ⟨⟨x, rfl⟩, hk1⟩)
      go_ret2
      rw [HCS.out]
      obtain ⟨bs, h⟩ := HD.out
      exact ⟨⟨_, _, rfl⟩, ⟨bs, h.kp hk1 (fun x => x)⟩, hk1.keep⟩
    · have e0 : ((aunts.length : Int) == 0) = false := by rw [beq_eq_false_iff_ne]; omega
      obtain ⟨m, hm⟩ : ∃ m, m = aunts.length - 1 := ⟨_, rfl⟩
      have hm1 : aunts.length = m + 1 := by omega
      have hs := splt_lt total (by omega)
      have hcs := climbS_last leaf aunts total i h1 m hm1
      have HSP := Lib.hid (fun wx : World => split_any total wx (by omega) ht2)
      obtain ⟨K, hK⟩ : ∃ K, K = splt total := ⟨_, rfl⟩
      rw [← hK] at hs hcs HSP
      obtain ⟨A1, c1, hs1, hmt⟩ := slc_to (P := Tryz.prog) Tryz.underlying22 szM HA.out.at_ m (by omega)
      have HMT : Hid (MatB w b (.slice A1 m c1) (aunts.take m)) := Lib.hid fun wx kx => hmt wx (HA.out wx kx)
      obtain ⟨a, haa⟩ : ∃ a, a = aunts[m]'(by omega) := ⟨_, rfl⟩
      have hcells : ∀ wx, Kp (fun j => j = b) w wx → ∃ g off u, A = some ⟨g, off, none⟩ ∧ wx.cell? ⟨g, off + m, none⟩ = some u ∧ Bys wx b u a := fun wx kx => by
        obtain ⟨_, _, _, _, h5⟩ := (HA.out wx kx).of_eq
        obtain ⟨g, off, hA, hc⟩ := h5 (by omega)
        obtain ⟨u, hu, hur⟩ := hc m (by omega)
        exact ⟨g, off, u, hA, hu, by rw [haa]; exact hur⟩
      have HCE := Lib.hid hcells
      rw [← haa] at hcs
      have hab : a.length ≤ 1073741824 := by rw [haa]; exact HAL.out _ (List.getElem_mem _)
      have hatl : (aunts.take m).length = m := by rw [List.length_take]; omega
      have hata : ∀ x ∈ aunts.take m, x.length ≤ 1073741824 := fun x hx => HAL.out x (List.mem_of_mem_take hx)
      have HCS := Lib.hid hcs
      have hmi : (aunts.length : Int) - 1 = (m : Int) := by omega
      have hmb : (m : Int) < (aunts.length : Int) := by omega
      have hmb2 : m + 1 ≤ 9223372036854775807 := by omega
      obtain ⟨N, hN⟩ : ∃ N, N = aunts.length := ⟨_, rfl⟩
      rw [← hN] at hs1 e0 hmi hmb a1 ⊢
      by_cases hik : i < K
      · have C : Hid (∀ wx, Kp (fun j => j = b) w wx → (∃ bs, Dg wx b bs) → Calls Tryz.prog 128 #[HS, .int .i64 (i : Int), .int .i64 (K : Int), .slice B leaf.length d, .slice A1 m c1] wx fun e w' => EndsH w' b (climbS leaf (aunts.take m) K i) e ∧ (∃ bs, Dg w' b bs) ∧ Kp (fun j => j = b) wx w') :=
          Lib.hid fun wx kx dx => IH.out m (by omega) (aunts.take m) leaf _ _ K i wx (by omega) (HMT.out.later kx) (HLF.out.later kx) dx (HKT.out.later HKB.out kx) (by omega) (by omega) hik hll hata
        rw [if_pos hik] at HCS
        have hiki : (i : Int) < (K : Int) := by omega
        clear IH hcs hK hmt hcells haa hatl hata hm hm1 h0 hN hn a4
        go_enter Tryz.func128, Tryz.ntmps128
        go_wp2_with (go_at_call 52
                     refine (HSP.out _).mono ?_
                     rintro e w' ⟨rfl, rfl⟩)
        refine (C.out _ (Kp.refl _ _) HD.out).mono ?_
        rintro e w1 ⟨he1, hd1, hk1⟩
        have HD1 := Lib.hid hd1
        have HK1 := Lib.hid hk1
        clear hd1 hk1
        cases hq : climbS leaf (aunts.take m) K i with
        | none =>
          rw [hq] at he1 HCS
          obtain ⟨t1, x1, rfl⟩ := he1
          clear hq
          go_wp2_with fail
          go_ret2
          rw [HCS.out]
          exact ⟨⟨_, _, rfl⟩, HD1.out, HK1.out⟩
        | some y1 =>
          rw [hq] at he1 HCS
          obtain ⟨v1, rfl, hb1, hy1⟩ := he1
          have HB1 := Lib.hid hb1
          obtain ⟨g, off, u, rfl, hu, hbu⟩ := HCE.out w1 HK1.out
          have HU1 := Lib.hid hbu
          have hbl : b < w1.heap.size := by obtain ⟨bs, h⟩ := HD1.out; exact h.lt
          clear hq hb1 hbu
          go_wp2_with (go_at_call 53
                       rw [HHS.out]
                       refine (innerHashOpt_any b v1 u y1 a _ HD1.out HB1.out HU1.out (HKT.out.later HKB.out HK1.out) hy1 hab).mono ?_
                       rintro e w2 ⟨v2, rfl, hb2, hd2, hk2⟩
                       have HB2 := Lib.hid hb2
                       have HD2 := Lib.hid hd2
                       have HK2 := Lib.hid (HK1.out.trans hk2)
                       clear hb2 hd2 hk2)
          go_ret2
          rw [HCS.out]
          exact ⟨⟨_, rfl, HB2.out.bys hbl, by unfold innerS; rw [sha_length]; omega⟩, HD2.out, HK2.out⟩
      · obtain ⟨T2, hT2⟩ : ∃ T2, T2 = total - K := ⟨_, rfl⟩
        obtain ⟨I2, hI2⟩ : ∃ I2, I2 = i - K := ⟨_, rfl⟩
        have C : Hid (∀ wx, Kp (fun j => j = b) w wx → (∃ bs, Dg wx b bs) → Calls Tryz.prog 128 #[HS, .int .i64 (I2 : Int), .int .i64 (T2 : Int), .slice B leaf.length d, .slice A1 m c1] wx fun e w' => EndsH w' b (climbS leaf (aunts.take m) T2 I2) e ∧ (∃ bs, Dg w' b bs) ∧ Kp (fun j => j = b) wx w') :=
          Lib.hid fun wx kx dx => IH.out m (by omega) (aunts.take m) leaf _ _ T2 I2 wx (by omega) (HMT.out.later kx) (HLF.out.later kx) dx (HKT.out.later HKB.out kx) (by omega) (by omega) (by omega) hll hata
        rw [if_neg hik, ← hT2, ← hI2] at HCS
        have hiki : ¬ (i : Int) < (K : Int) := by omega
        have hti : (total : Int) - (K : Int) = (T2 : Int) := by omega
        have hii : (i : Int) - (K : Int) = (I2 : Int) := by omega
        have htb : T2 ≤ 9223372036854775807 := by omega
        have hib : I2 ≤ 9223372036854775807 := by omega
        clear IH hcs hK hmt hcells haa hatl hata hm hm1 h0 hN hn a4 hT2 hI2
        go_enter Tryz.func128, Tryz.ntmps128
        go_wp2_with (go_at_call 52
                     refine (HSP.out _).mono ?_
                     rintro e w' ⟨rfl, rfl⟩)
        refine (C.out _ (Kp.refl _ _) HD.out).mono ?_
        rintro e w1 ⟨he1, hd1, hk1⟩
        have HD1 := Lib.hid hd1
        have HK1 := Lib.hid hk1
        clear hd1 hk1
        cases hq : climbS leaf (aunts.take m) T2 I2 with
        | none =>
          rw [hq] at he1 HCS
          obtain ⟨t1, x1, rfl⟩ := he1
          clear hq
          go_wp2_with fail
          go_ret2
          rw [HCS.out]
          exact ⟨⟨_, _, rfl⟩, HD1.out, HK1.out⟩
        | some y1 =>
          rw [hq] at he1 HCS
          obtain ⟨v1, rfl, hb1, hy1⟩ := he1
          have HB1 := Lib.hid hb1
          obtain ⟨g, off, u, rfl, hu, hbu⟩ := HCE.out w1 HK1.out
          have HU1 := Lib.hid hbu
          have hbl : b < w1.heap.size := by obtain ⟨bs, h⟩ := HD1.out; exact h.lt
          clear hq hb1 hbu
          go_wp2_with (go_at_call 53
                       rw [HHS.out]
                       refine (innerHashOpt_any b u v1 a y1 _ HD1.out HU1.out HB1.out (HKT.out.later HKB.out HK1.out) hab hy1).mono ?_
                       rintro e w2 ⟨v2, rfl, hb2, hd2, hk2⟩
                       have HB2 := Lib.hid hb2
                       have HD2 := Lib.hid hd2
                       have HK2 := Lib.hid (HK1.out.trans hk2)
                       clear hb2 hd2 hk2)
          go_ret2
          rw [HCS.out]
          exact ⟨⟨_, rfl, HB2.out.bys hbl, by unfold innerS; rw [sha_length]; omega⟩, HD2.out, HK2.out⟩
end Go.Proofs.YtfodkjpjejoemaaGreatDoor
