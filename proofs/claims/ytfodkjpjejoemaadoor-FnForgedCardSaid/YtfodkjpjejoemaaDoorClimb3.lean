/-
  A proof verified: the calls around it walked.
  Conditions: the proof reads as numbers and lists of bytes, root and leaf as bytes, the root not empty; SHA-256's table holds its numbers.
-/
import Derived.Test.YtfodkjpjejoemaaDoorClimb2
import Derived.WalkSpells
namespace Go.Proofs.YtfodkjpjejoemaaDoor
open Go Go.RowKit
attribute [local go_sem ↓] Go.wp_at_zero Go.wp_at_succ

/-- what verifying a proof answers -/
def verifB (p : Prf) (root leaf : List UInt8) : Bool := decide (0 ≤ p.total) && decide (0 ≤ p.index) && (p.leaf == leafS leaf) && (match climbP p with | some y => y == root | none => false)

theorem newHash_any (w : World) :
    Calls Tryd.prog 129 #[] w fun e w' => ∃ b, e = .returned (hshV b) ∧ w.heap.size ≤ b ∧ Dg w' b [] ∧ Keep w w' := by
  go_enter Tryd.func129, Tryd.ntmps129
  go_wp2_with (go_at_call 112
               refine (newDg_any _).mono ?_
               rintro e w1 ⟨b, rfl, hb1, hd1, hk1⟩)
  go_ret
  exact ⟨b, rfl, hb1, hd1, hk1⟩

set_option maxRecDepth 100000 in
set_option maxHeartbeats 4000000 in
theorem verify_any (bp : Nat) (p : Prf) (lv av rv fv : Value) (root leaf : List UInt8) (w : World) (hp : PrfB w bp p lv av) (ha : Mat w av p.aunts) (hl : Byts w lv p.leaf) (hr : Byts w rv root) (hr0 : 0 < root.length) (hf : Byts w fv leaf) (hK : KTab w) (ht2 : p.total ≤ 9223372036854775807) (hll : p.leaf.length ≤ 1073741824) (hal : ∀ a ∈ p.aunts, a.length ≤ 1073741824) (hfl : leaf.length ≤ 4294960000) :
    Calls Tryd.prog 100 #[.pointer (some ⟨bp, 0, none⟩), rv, fv] w fun e w' => (∃ v, e = .returned v ∧ ErrIs (!verifB p root leaf) v) ∧ Keep w w' := by
  have HP := Lib.hid hp
  have HA := Lib.hid ha
  have HL := Lib.hid hl
  have HR := Lib.hid hr
  have HF := Lib.hid hf
  have HKT := Lib.hid hK
  have HAL := Lib.hid hal
  obtain ⟨c0, c1, c2, c3⟩ := hp
  have hbl := World.block_lt_of_cell? w _ c0
  simp only at hbl
  obtain ⟨g, off, c, rfl⟩ : ∃ g off c, rv = .slice (some ⟨g, off, none⟩) root.length c := by
    obtain ⟨A, c, h1, h2, h3, h4, h5⟩ := hr
    obtain ⟨b, off, rfl, _⟩ := h5 hr0
    exact ⟨b, off, c, h1⟩
  have qn : ∀ (w : World) (n c : Nat) (a : Addr), (binOp .eql 22 (.slice (some a) n c) (.slice none 0 0)).run Tryd.prog w = .ok (.bool false) w := fun w n c a => by
    have := Lib.run_eql_slice_nil (P := Tryd.prog) w 22 5 (some a) n c 0 0 Tryd.underlying22
    simpa using this
  clear ha hl hr hf hK hal hr0
  by_cases ht : 0 ≤ p.total
  · by_cases hi : 0 ≤ p.index
    · have hti : ¬ p.total < 0 := by omega
      have hii : ¬ p.index < 0 := by omega
      cases hlf : (p.leaf == leafS leaf) with
      | false =>
        have hvb : verifB p root leaf = false := by unfold verifB; rw [hlf]; simp
        have HVB := Lib.hid hvb
        have HLF := Lib.hid hlf
        clear hvb hlf
        go_enter Tryd.func100, Tryd.ntmps100
        go_wp2_with (first
          | (go_at_call 129
             refine (newHash_any _).mono ?_
             rintro e w1 ⟨b, rfl, hb1, hd1, hk1⟩
             have HD1 := Lib.hid hd1
             have HK1 := Lib.hid hk1
             clear hd1 hk1)
          | (go_at_call 130
             refine (leafHashOpt_big b fv leaf _ ⟨_, HD1.out⟩ (fun wx kx => Byts.keep HF.out (HK1.out.trans' kx fun i hi e => by subst e; omega)) (HKT.out.keep HK1.out (fun x => x)) hfl).mono ?_
             rintro e w2 ⟨v2, rfl, ho2, hd2, hk2⟩
             have HO2 := Lib.hid ho2
             have HD2 := Lib.hid hd2
             have hk2' : Keep w w2 := HK1.out.trans' hk2 fun i hi e => by subst e; omega
             have HK2 := Lib.hid hk2'
             have d0 := hk2'.cell_of c0 (fun x => x)
             have d1 := hk2'.cell_of c1 (fun x => x)
             have d2 := hk2'.cell_of c2 (fun x => x)
             have d3 := hk2'.cell_of c3 (fun x => x)
             clear ho2 hd2 hk2 hk2'))
        refine (bytesEqual_any lv v2 p.leaf (leafS leaf) _ (Byts.keep HL.out HK2.out) (HO2.out.slc_map (R := U8) u8v (fun _ _ => rfl))).mono ?_
        rintro e w3 ⟨rfl, rfl⟩
        rw [HLF.out]
        go_wp2_with (go_at_call 88; refine (errNew2_any _ _).mono ?_; rintro e w9 ⟨⟨x, rfl⟩, hk9⟩)
        go_ret
        exact ⟨⟨_, rfl, by rw [HVB.out]; exact ErrIs.yes⟩, HK2.out.trans hk9⟩
      | true =>
        have HLF := Lib.hid hlf
        cases hq : climbP p with
        | none =>
          have hvb : verifB p root leaf = false := by unfold verifB; rw [hq]; simp
          have HVB := Lib.hid hvb
          have HQ := Lib.hid hq
          clear hvb hlf hq
          go_enter Tryd.func100, Tryd.ntmps100
          go_wp2_with (first
            | (go_at_call 129
               refine (newHash_any _).mono ?_
               rintro e w1 ⟨b, rfl, hb1, hd1, hk1⟩
               have HD1 := Lib.hid hd1
               have HK1 := Lib.hid hk1
               clear hd1 hk1)
            | (go_at_call 130
               refine (leafHashOpt_big b fv leaf _ ⟨_, HD1.out⟩ (fun wx kx => Byts.keep HF.out (HK1.out.trans' kx fun i hi e => by subst e; omega)) (HKT.out.keep HK1.out (fun x => x)) hfl).mono ?_
               rintro e w2 ⟨v2, rfl, ho2, hd2, hk2⟩
               have HO2 := Lib.hid ho2
               have HD2 := Lib.hid hd2
               have hk2' : Keep w w2 := HK1.out.trans' hk2 fun i hi e => by subst e; omega
               have HK2 := Lib.hid hk2'
               have d0 := hk2'.cell_of c0 (fun x => x)
               have d1 := hk2'.cell_of c1 (fun x => x)
               have d2 := hk2'.cell_of c2 (fun x => x)
               have d3 := hk2'.cell_of c3 (fun x => x)
               clear ho2 hd2 hk2 hk2'))
          refine (bytesEqual_any lv v2 p.leaf (leafS leaf) _ (Byts.keep HL.out HK2.out) (HO2.out.slc_map (R := U8) u8v (fun _ _ => rfl))).mono ?_
          rintro e w3 ⟨rfl, rfl⟩
          rw [HLF.out]
          go_wp2_with (first
            | (go_at_call 132
               refine (compRoot_any b bp p lv av _ ⟨d0, d1, d2, d3⟩ (by omega) (MatB.of HA.out HK2.out hb1) (fun wx kx => Byts.keep HL.out (HK2.out.trans' kx fun i hi e => by subst e; omega)) HD2.out (HKT.out.keep HK2.out (fun x => x)) hi ht2 hll HAL.out).mono ?_
               rintro e w4 ⟨he4, hd4, hk4⟩
               rw [HQ.out] at he4
               obtain ⟨t4, x4, rfl⟩ := he4
               have hk4' : Keep w w4 := HK2.out.trans' hk4 fun i hi e => by subst e; omega
               have HK4 := Lib.hid hk4'
               clear hd4 hk4 hk4')
            | (go_at_call 88; refine (errNew2_any _ _).mono ?_; rintro e w9 ⟨⟨x, rfl⟩, hk9⟩))
          go_ret
          exact ⟨⟨_, rfl, by rw [HVB.out]; exact ErrIs.yes⟩, HK4.out.trans hk9⟩
        | some y =>
          have hvb : verifB p root leaf = (y == root) := by unfold verifB; rw [hq, hlf]; simp [ht, hi]
          have HVB := Lib.hid hvb
          have HQ := Lib.hid hq
          clear hvb hlf hq
          go_enter Tryd.func100, Tryd.ntmps100
          go_wp2_with (first
            | (go_at_call 129
               refine (newHash_any _).mono ?_
               rintro e w1 ⟨b, rfl, hb1, hd1, hk1⟩
               have HD1 := Lib.hid hd1
               have HK1 := Lib.hid hk1
               clear hd1 hk1)
            | (go_at_call 130
               refine (leafHashOpt_big b fv leaf _ ⟨_, HD1.out⟩ (fun wx kx => Byts.keep HF.out (HK1.out.trans' kx fun i hi e => by subst e; omega)) (HKT.out.keep HK1.out (fun x => x)) hfl).mono ?_
               rintro e w2 ⟨v2, rfl, ho2, hd2, hk2⟩
               have HO2 := Lib.hid ho2
               have HD2 := Lib.hid hd2
               have hk2' : Keep w w2 := HK1.out.trans' hk2 fun i hi e => by subst e; omega
               have HK2 := Lib.hid hk2'
               have d0 := hk2'.cell_of c0 (fun x => x)
               have d1 := hk2'.cell_of c1 (fun x => x)
               have d2 := hk2'.cell_of c2 (fun x => x)
               have d3 := hk2'.cell_of c3 (fun x => x)
               clear ho2 hd2 hk2 hk2'))
          refine (bytesEqual_any lv v2 p.leaf (leafS leaf) _ (Byts.keep HL.out HK2.out) (HO2.out.slc_map (R := U8) u8v (fun _ _ => rfl))).mono ?_
          rintro e w3 ⟨rfl, rfl⟩
          rw [HLF.out]
          go_wp2_with (first
            | (go_at_call 132
               refine (compRoot_any b bp p lv av _ ⟨d0, d1, d2, d3⟩ (by omega) (MatB.of HA.out HK2.out hb1) (fun wx kx => Byts.keep HL.out (HK2.out.trans' kx fun i hi e => by subst e; omega)) HD2.out (HKT.out.keep HK2.out (fun x => x)) hi ht2 hll HAL.out).mono ?_
               rintro e w4 ⟨he4, hd4, hk4⟩
               rw [HQ.out] at he4
               obtain ⟨v4, rfl, hb4, -⟩ := he4
               have HB4 := Lib.hid hb4
               have hk4' : Keep w w4 := HK2.out.trans' hk4 fun i hi e => by subst e; omega
               have HK4 := Lib.hid hk4'
               clear hd4 hk4 hk4'))
          cases hrt : (y == root) with
          | false =>
            have HRT := Lib.hid hrt
            clear hrt
            refine (bytesEqual_any v4 _ y root _ HB4.out.at_ (Byts.keep HR.out HK4.out)).mono ?_
            rintro e w5 ⟨rfl, rfl⟩
            rw [HRT.out]
            go_wp2_with (go_at_call 88; refine (errNew2_any _ _).mono ?_; rintro e w9 ⟨⟨x, rfl⟩, hk9⟩)
            go_ret
            exact ⟨⟨_, rfl, by rw [HVB.out, HRT.out]; exact ErrIs.yes⟩, HK4.out.trans hk9⟩
          | true =>
            have HRT := Lib.hid hrt
            clear hrt
            refine (bytesEqual_any v4 _ y root _ HB4.out.at_ (Byts.keep HR.out HK4.out)).mono ?_
            rintro e w5 ⟨rfl, rfl⟩
            rw [HRT.out]
            go_wp2_with fail
            go_ret
            exact ⟨⟨_, rfl, by rw [HVB.out, HRT.out]; exact ErrIs.no⟩, HK4.out⟩
    · have hti : ¬ p.total < 0 := by omega
      have hii : p.index < 0 := by omega
      have hvb : verifB p root leaf = false := by unfold verifB; simp [hi]
      have HVB := Lib.hid hvb
      clear hvb
      go_enter Tryd.func100, Tryd.ntmps100
      go_wp2_with (go_at_call 88; refine (errNew2_any _ _).mono ?_; rintro e w9 ⟨⟨x, rfl⟩, hk9⟩)
      go_ret
      exact ⟨⟨_, rfl, by rw [HVB.out]; exact ErrIs.yes⟩, hk9⟩
  · have hti : p.total < 0 := by omega
    have hvb : verifB p root leaf = false := by unfold verifB; simp [ht]
    have HVB := Lib.hid hvb
    clear hvb
    go_enter Tryd.func100, Tryd.ntmps100
    go_wp2_with (go_at_call 88; refine (errNew2_any _ _).mono ?_; rintro e w9 ⟨⟨x, rfl⟩, hk9⟩)
    go_ret
    exact ⟨⟨_, rfl, by rw [HVB.out]; exact ErrIs.yes⟩, hk9⟩
end Go.Proofs.YtfodkjpjejoemaaDoor
