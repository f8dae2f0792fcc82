/-
  FnBits' walk: bits joined, met, taken and turned are what the lists say.
  Conditions: the arguments read as lists of bools.
-/
import Derived.Test.YtfodkjpjejoemaaSpecBits
namespace Go.Proofs.Ytfodkjpjejoemaa
open Go Go.RowKit

theorem bitAt_layTo (op : Nat → Nat → Nat) (cs os : List Nat) (k : Nat) (hk : k ≤ cs.length) (j : Nat) :
    bitAt (layTo op cs os k) j = if j / 64 < k then (op (cs.getD (j / 64) 0) (os.getD (j / 64) 0)).testBit (j % 64) else bitAt cs j := by
  unfold bitAt
  rw [layTo_getD op cs os k hk]
  split <;> rfl
theorem bitAt_fitTo (ws : List Nat) (n j : Nat) (h : j < n) : bitAt (fitTo ws n) j = bitAt ws j := by
  unfold bitAt
  rw [fitTo_getD ws n _ (by omega)]
theorem bitAt_none (ws : List Nat) (j : Nat) (h : ws.length ≤ j / 64) : bitAt ws j = false := by
  unfold bitAt; simp [List.getD, List.getElem?_eq_none h]
theorem mapped {F G : Nat → Bool} {n : Nat} (h : ∀ j, j < n → F j = G j) : (List.range n).map F = (List.range n).map G := by
  apply List.map_congr_left; intro j hj; exact h j (by simpa using hj)

theorem or_law (L1 L2 : List Bool) (h : (L2.length + 63) / 64 ≤ (L1.length + 63) / 64) :
    unpack (layTo (· ||| ·) (fitTo (pack L1) (max L1.length L2.length)) (pack L2) (min (pack L1).length (pack L2).length)) (max L1.length L2.length) = (List.range (max L1.length L2.length)).map (eitherF L1 L2) := by
  have e1 := pack_length L1
  have e2 := pack_length L2
  apply mapped
  intro j hj
  rw [bitAt_layTo _ _ _ _ (by rw [fitTo_length]; omega)]
  unfold eitherF
  rw [← bitAt_pack L1 j, ← bitAt_pack L2 j]
  split
  · rw [fitTo_getD _ _ _ (by omega), Nat.testBit_or]; rfl
  · rw [bitAt_fitTo _ _ _ hj, bitAt_none (pack L2) j (by omega), Bool.or_false]

theorem and_law (L1 L2 : List Bool) :
    unpack (layTo (· &&& ·) (fitTo (pack L1) (min L1.length L2.length)) (pack L2) ((min L1.length L2.length + 63) / 64)) (min L1.length L2.length) = (List.range (min L1.length L2.length)).map (bothF L1 L2) := by
  apply mapped
  intro j hj
  rw [bitAt_layTo _ _ _ _ (by rw [fitTo_length]; omega)]
  unfold bothF
  rw [← bitAt_pack L1 j, ← bitAt_pack L2 j, if_pos (by omega), fitTo_getD _ _ _ (by omega), Nat.testBit_and]; rfl

theorem testBit_not (x i : Nat) (hx : x < 2 ^ 64) (hi : i < 64) : (18446744073709551615 - x).testBit i = !x.testBit i := by
  have e : 18446744073709551615 - x = 2 ^ 64 - (x + 1) := by omega
  rw [e, Nat.testBit_two_pow_sub_succ hx]
  simp [hi]

theorem pack_small (L : List Bool) : ∀ x ∈ pack L, x < 2 ^ 64 := packTo_small _ _ _

theorem sub_law (L1 L2 : List Bool) :
    unpack (layTo andNot (fitTo (pack L1) L1.length) (pack L2) (min (pack L1).length (pack L2).length)) L1.length = (List.range L1.length).map (withoutF L1 L2) := by
  have e1 := pack_length L1
  have e2 := pack_length L2
  apply mapped
  intro j hj
  rw [bitAt_layTo _ _ _ _ (by rw [fitTo_length]; omega)]
  unfold withoutF
  rw [← bitAt_pack L1 j, ← bitAt_pack L2 j]
  split
  · rw [fitTo_getD _ _ _ (by omega)]
    unfold andNot
    rw [Nat.testBit_and, testBit_not _ _ (getD_lt _ _ (pack_small L2)) (by omega)]; rfl
  · rw [bitAt_fitTo _ _ _ hj, bitAt_none (pack L2) j (by omega)]; simp

theorem not_law (L1 : List Bool) :
    unpack (layTo notW (pack L1) [] (pack L1).length) L1.length = (List.range L1.length).map (turnedF L1) := by
  have e1 := pack_length L1
  apply mapped
  intro j hj
  rw [bitAt_layTo _ _ _ _ (Nat.le_refl _)]
  unfold turnedF
  rw [← bitAt_pack L1 j, if_pos (by omega)]
  unfold notW
  rw [testBit_not _ _ (getD_lt _ _ (pack_small L1)) (by omega)]; rfl

theorem iEither_any (v1 v2 : Value) (L1 L2 : List Bool) (w : World) (h1 : Bools w v1 L1) (h2 : Bools w v2 L2) (p1 : 0 < L1.length) (p2 : 0 < L2.length) (q1 : L1.length ≤ 4294967296) (q2 : L2.length ≤ 4294967296)
    (hw : (L2.length + 63) / 64 ≤ (L1.length + 63) / 64) :
    Calls Try.prog 11 #[v1, v2] w fun e w' => ∃ v, e = .returned v ∧ Bools w' v ((List.range (max L1.length L2.length)).map (eitherF L1 L2)) ∧ Keep w w' := by
  have HW := Lib.hid hw
  have H2 := Lib.hid h2
  have HA := Lib.hid (array_any v1 L1 w h1 p1 q1)
  clear h1 h2 hw
  go_enter Try.func11, Try.ntmps11
  go_wp2_with (go_at_call 26; refine HA.out.mono ?_; rintro e wa ⟨b, g, rfl, hb, hg, hba, hk⟩)
  have HB := Lib.hid hba
  have HK := Lib.hid hk
  clear hba hk
  go_wp2_with (go_at_call 26; refine (array_any v2 L2 wa (H2.out.keep HK.out) p2 q2).mono ?_; rintro e wb ⟨b', g', rfl, hb', hg', hba', hk'⟩)
  have HB' := Lib.hid hba'
  have HK' := Lib.hid hk'
  clear hba' hk'
  go_wp2_with (go_at_call 29; refine (Or_any b g _ _ b' g' _ _ wb (HB.out.kp HK'.out (fun x => x) (fun x => x)) HB'.out).mono ?_; rintro e wc ⟨c, d, rfl, hc, hk2⟩)
  have HC := Lib.hid hc
  have HK2 := Lib.hid hk2
  clear hc hk2
  go_wp2_with (go_at_call 28; refine (list_any c d _ _ wc HC.out).mono ?_; rintro e wd ⟨v, rfl, hv, hk3⟩)
  go_ret
  exact ⟨_, rfl, by rw [← or_law L1 L2 HW.out]; exact hv, ((HK.out.trans HK'.out).trans HK2.out).trans hk3⟩

theorem iBoth_any (v1 v2 : Value) (L1 L2 : List Bool) (w : World) (h1 : Bools w v1 L1) (h2 : Bools w v2 L2) (p1 : 0 < L1.length) (p2 : 0 < L2.length) (q1 : L1.length ≤ 4294967296) (q2 : L2.length ≤ 4294967296) :
    Calls Try.prog 13 #[v1, v2] w fun e w' => ∃ v, e = .returned v ∧ Bools w' v ((List.range (min L1.length L2.length)).map (bothF L1 L2)) ∧ Keep w w' := by
  have H2 := Lib.hid h2
  have HA := Lib.hid (array_any v1 L1 w h1 p1 q1)
  clear h1 h2
  go_enter Try.func13, Try.ntmps13
  go_wp2_with (go_at_call 26; refine HA.out.mono ?_; rintro e wa ⟨b, g, rfl, hb, hg, hba, hk⟩)
  have HB := Lib.hid hba
  have HK := Lib.hid hk
  clear hba hk
  go_wp2_with (go_at_call 26; refine (array_any v2 L2 wa (H2.out.keep HK.out) p2 q2).mono ?_; rintro e wb ⟨b', g', rfl, hb', hg', hba', hk'⟩)
  have HB' := Lib.hid hba'
  have HK' := Lib.hid hk'
  clear hba' hk'
  go_wp2_with (go_at_call 30; refine (And_any b g _ _ b' g' _ _ wb (HB.out.kp HK'.out (fun x => x) (fun x => x)) HB'.out).mono ?_; rintro e wc ⟨c, d, rfl, hc, hk2⟩)
  have HC := Lib.hid hc
  have HK2 := Lib.hid hk2
  clear hc hk2
  go_wp2_with (go_at_call 28; refine (list_any c d _ _ wc HC.out).mono ?_; rintro e wd ⟨v, rfl, hv, hk3⟩)
  go_ret
  exact ⟨_, rfl, by rw [← and_law L1 L2]; exact hv, ((HK.out.trans HK'.out).trans HK2.out).trans hk3⟩

theorem iWithout_any (v1 v2 : Value) (L1 L2 : List Bool) (w : World) (h1 : Bools w v1 L1) (h2 : Bools w v2 L2) (p1 : 0 < L1.length) (p2 : 0 < L2.length) (q1 : L1.length ≤ 4294967296) (q2 : L2.length ≤ 4294967296) :
    Calls Try.prog 15 #[v1, v2] w fun e w' => ∃ v, e = .returned v ∧ Bools w' v ((List.range L1.length).map (withoutF L1 L2)) ∧ Keep w w' := by
  have H2 := Lib.hid h2
  have HA := Lib.hid (array_any v1 L1 w h1 p1 q1)
  clear h1 h2
  go_enter Try.func15, Try.ntmps15
  go_wp2_with (go_at_call 26; refine HA.out.mono ?_; rintro e wa ⟨b, g, rfl, hb, hg, hba, hk⟩)
  have HB := Lib.hid hba
  have HK := Lib.hid hk
  clear hba hk
  go_wp2_with (go_at_call 26; refine (array_any v2 L2 wa (H2.out.keep HK.out) p2 q2).mono ?_; rintro e wb ⟨b', g', rfl, hb', hg', hba', hk'⟩)
  have HB' := Lib.hid hba'
  have HK' := Lib.hid hk'
  clear hba' hk'
  go_wp2_with (go_at_call 31; refine (Sub_any b g _ _ b' g' _ _ wb (HB.out.kp HK'.out (fun x => x) (fun x => x)) HB'.out).mono ?_; rintro e wc ⟨c, d, rfl, hc, hk2⟩)
  have HC := Lib.hid hc
  have HK2 := Lib.hid hk2
  clear hc hk2
  go_wp2_with (go_at_call 28; refine (list_any c d _ _ wc HC.out).mono ?_; rintro e wd ⟨v, rfl, hv, hk3⟩)
  go_ret
  exact ⟨_, rfl, by rw [← sub_law L1 L2]; exact hv, ((HK.out.trans HK'.out).trans HK2.out).trans hk3⟩

theorem iTurned_any (v1 : Value) (L1 : List Bool) (w : World) (h1 : Bools w v1 L1) (p1 : 0 < L1.length) (q1 : L1.length ≤ 4294967296) :
    Calls Try.prog 17 #[v1] w fun e w' => ∃ v, e = .returned v ∧ Bools w' v ((List.range L1.length).map (turnedF L1)) ∧ Keep w w' := by
  have HA := Lib.hid (array_any v1 L1 w h1 p1 q1)
  clear h1
  go_enter Try.func17, Try.ntmps17
  go_wp2_with (go_at_call 26; refine HA.out.mono ?_; rintro e wa ⟨b, g, rfl, hb, hg, hba, hk⟩)
  have HB := Lib.hid hba
  have HK := Lib.hid hk
  clear hba hk
  go_wp2_with (go_at_call 32; refine (Not_any b g _ _ wa HB.out).mono ?_; rintro e wc ⟨c, d, rfl, hc, hk2⟩)
  have HC := Lib.hid hc
  have HK2 := Lib.hid hk2
  clear hc hk2
  go_wp2_with (go_at_call 28; refine (list_any c d _ _ wc HC.out).mono ?_; rintro e wd ⟨v, rfl, hv, hk3⟩)
  go_ret
  exact ⟨_, rfl, by rw [← not_law L1]; exact hv, (HK.out.trans HK2.out).trans hk3⟩

theorem equal_same (v1 v2 : Value) (L : List Bool) (w : World) (h1 : Bools w v1 L) (h2 : Bools w v2 L) :
    Calls Try.prog 10 #[v1, v2] w fun e w' => e = .returned (.bool true) ∧ Keep w w' :=
  (equal_any v1 v2 L L w h1 h2).mono fun e w' ⟨h, k⟩ => ⟨by rw [h, beq_self_eq_true], k⟩

/-- the end of the walk -/
def BitsRest (e : Ending) (w w' : World) : Prop := e = .returned (.bool true) ∧ Keep w w'


set_option maxHeartbeats 4000000 in
set_option maxRecDepth 100000 in
theorem fnBits_walk (v1 v2 : Value) (L1 L2 : List Bool) (w : World) (h1 : Bools w v1 L1) (h2 : Bools w v2 L2) :
    Calls Try.prog 4 #[v1, v2] w fun e w' => BitsRest e w w' := by
  have HF1 := Lib.hid (few_any v1 L1 w h1)
  have HF2 := Lib.hid (few_any v2 L2 w h2)
  obtain ⟨A1, c1, rfl, a1, a2, a3, a4⟩ := h1
  obtain ⟨A2, c2, rfl, b1, b2, b3, b4⟩ := h2
  clear a3 a4 b3 b4
  unfold maxLen at a2 b2
  by_cases big1 : L1.length ≤ 2147483647
  · by_cases big2 : L2.length ≤ 2147483647
    · have l1 : (L1.take 500).length = min 500 L1.length := List.length_take
      have l2 : (L2.take 500).length = min 500 L2.length := List.length_take
      obtain ⟨M1, e1⟩ : ∃ M, M = L1.take 500 := ⟨_, rfl⟩
      obtain ⟨M2, e2⟩ : ∃ M, M = L2.take 500 := ⟨_, rfl⟩
      rw [← e1] at HF1 l1
      rw [← e2] at HF2 l2
      clear e1 e2
      have q1 : M1.length ≤ 500 := by omega
      have q2 : M2.length ≤ 500 := by omega
      clear l1 l2
      by_cases z1 : M1.length = 0
      · go_enter Try.func4, Try.ntmps4
        go_wp2_with (first
          | (go_at_call 7; first
            | (refine HF1.out.mono ?_; rintro e wa ⟨v', rfl, ⟨A', d', rfl, g1, g2, g3, g4⟩, rfl⟩; clear g1 g2 g3 g4)
            | (refine HF2.out.mono ?_; rintro e wa ⟨v', rfl, ⟨A', d', rfl, g1, g2, g3, g4⟩, rfl⟩; clear g1 g2 g3 g4)))
        go_ret
        exact ⟨rfl, Kp.refl _ _⟩
      · by_cases z2 : M2.length = 0
        · go_enter Try.func4, Try.ntmps4
          go_wp2_with (first
            | (go_at_call 7; first
              | (refine HF1.out.mono ?_; rintro e wa ⟨v', rfl, ⟨A', d', rfl, g1, g2, g3, g4⟩, rfl⟩; clear g1 g2 g3 g4)
              | (refine HF2.out.mono ?_; rintro e wa ⟨v', rfl, ⟨A', d', rfl, g1, g2, g3, g4⟩, rfl⟩; clear g1 g2 g3 g4)))
          go_ret
          exact ⟨rfl, Kp.refl _ _⟩
        · have p1 : 0 < M1.length := by omega
          have p2 : 0 < M2.length := by omega
          have hn1 : ¬ M1 = [] := by rintro rfl; simp at p1
          have hn2 : ¬ M2 = [] := by rintro rfl; simp at p2
          by_cases hw : (M2.length + 63) / 64 ≤ (M1.length + 63) / 64
          all_goals
            have HQ := Lib.hid hw
            have HK : Hid (Keep w w) := Lib.hid (Kp.refl _ w)
            go_enter Try.func4, Try.ntmps4
            go_wp2_with (first
              | (go_at_call 7; first
                | (refine HF1.out.mono ?_; rintro e wa ⟨v', rfl, hv1, rfl⟩; have HV1 := Lib.hid hv1; obtain ⟨A', d', rfl, g1, g2, g3, g4⟩ := hv1; clear g3 g4; unfold maxLen at g2)
                | (refine HF2.out.mono ?_; rintro e wa ⟨v', rfl, hv2, rfl⟩; have HV2 := Lib.hid hv2; obtain ⟨A2', d2', rfl, f1, f2, f3, f4⟩ := hv2; clear f3 f4; unfold maxLen at f2))
              | (go_at_call 11; refine (iEither_any _ _ M1 M2 _ (HV1.out.keep HK.out) (HV2.out.keep HK.out) p1 p2 (by omega) (by omega) HQ.out).mono ?_; rintro e wx ⟨r1, rfl, hr1, hk1⟩; have HR := Lib.hid hr1; replace HK := Lib.hid (HK.out.trans hk1); clear hr1 hk1)
              | (go_at_call 12; refine (sEither_any _ _ M1 M2 _ (HV1.out.keep HK.out) (HV2.out.keep HK.out) p1 p2 (by omega) (by omega)).mono ?_; rintro e wx ⟨r2, rfl, hr2, hk2⟩; have HR2 := Lib.hid hr2; replace HR := Lib.hid (HR.out.keep hk2); replace HK := Lib.hid (HK.out.trans hk2); clear hr2 hk2)
              | (go_at_call 13; refine (iBoth_any _ _ M1 M2 _ (HV1.out.keep HK.out) (HV2.out.keep HK.out) p1 p2 (by omega) (by omega)).mono ?_; rintro e wx ⟨r1, rfl, hr1, hk1⟩; have HR := Lib.hid hr1; replace HK := Lib.hid (HK.out.trans hk1); clear hr1 hk1)
              | (go_at_call 14; refine (sBoth_any _ _ M1 M2 _ (HV1.out.keep HK.out) (HV2.out.keep HK.out) p1 p2 (by omega) (by omega)).mono ?_; rintro e wx ⟨r2, rfl, hr2, hk2⟩; have HR2 := Lib.hid hr2; replace HR := Lib.hid (HR.out.keep hk2); replace HK := Lib.hid (HK.out.trans hk2); clear hr2 hk2)
              | (go_at_call 15; refine (iWithout_any _ _ M1 M2 _ (HV1.out.keep HK.out) (HV2.out.keep HK.out) p1 p2 (by omega) (by omega)).mono ?_; rintro e wx ⟨r1, rfl, hr1, hk1⟩; have HR := Lib.hid hr1; replace HK := Lib.hid (HK.out.trans hk1); clear hr1 hk1)
              | (go_at_call 16; refine (sWithout_any _ _ M1 M2 _ (HV1.out.keep HK.out) (HV2.out.keep HK.out) p1 p2 (by omega) (by omega)).mono ?_; rintro e wx ⟨r2, rfl, hr2, hk2⟩; have HR2 := Lib.hid hr2; replace HR := Lib.hid (HR.out.keep hk2); replace HK := Lib.hid (HK.out.trans hk2); clear hr2 hk2)
              | (go_at_call 17; refine (iTurned_any _ M1 _ (HV1.out.keep HK.out) p1 (by omega)).mono ?_; rintro e wx ⟨r1, rfl, hr1, hk1⟩; have HR := Lib.hid hr1; replace HK := Lib.hid (HK.out.trans hk1); clear hr1 hk1)
              | (go_at_call 18; refine (sTurned_any _ M1 _ (HV1.out.keep HK.out) p1 (by omega)).mono ?_; rintro e wx ⟨r2, rfl, hr2, hk2⟩; have HR2 := Lib.hid hr2; replace HR := Lib.hid (HR.out.keep hk2); replace HK := Lib.hid (HK.out.trans hk2); clear hr2 hk2)
              | (go_at_call 10; refine (equal_same _ _ _ _ HR.out HR2.out).mono ?_; rintro e wx ⟨rfl, hk3⟩; replace HK := Lib.hid (HK.out.trans hk3); clear hk3 HR HR2))
            all_goals first
              | (rename_i hz; exfalso; rcases hz with hz | hz <;> simp at hz <;> contradiction)
              | (go_ret; exact ⟨rfl, HK.out⟩)
              | skip
    · go_enter Try.func4, Try.ntmps4
      go_wp2
      go_ret
      exact ⟨rfl, Kp.refl _ _⟩
  · go_enter Try.func4, Try.ntmps4
    go_wp2
    go_ret
    exact ⟨rfl, Kp.refl _ _⟩
end Go.Proofs.Ytfodkjpjejoemaa
