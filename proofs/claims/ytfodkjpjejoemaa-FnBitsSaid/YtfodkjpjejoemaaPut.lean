/-
  FnPut's walk: a bit that is put is there, and all others are as they were.
  Conditions: the argument reads as a list of bools.
-/
import Derived.Test.YtfodkjpjejoemaaBits2
namespace Go.Proofs.Ytfodkjpjejoemaa
open Go Go.RowKit

theorem unpack_eq (ws : List Nat) (L : List Bool) (h : ∀ j, j < L.length → bitAt ws j = L.getD j false) : unpack ws L.length = L := by
  apply List.ext_getElem
  · simp [unpack]
  · intro j h1 h2
    simp [unpack, h j h2, List.getD, h2]
theorem unpack_pack (L : List Bool) : unpack (pack L) L.length = L := unpack_eq _ _ fun j _ => bitAt_pack L j
theorem pack_length (L : List Bool) : (pack L).length = (L.length + 63) / 64 := packTo_length _ _ _
theorem unpack_put (L : List Bool) (i : Nat) (v : Bool) (h : i < L.length) : unpack (if v then setBit (pack L) i else clrBit (pack L) i) L.length = L.set i v := by
  have e : L.length = (L.set i v).length := by simp
  rw [e]
  apply unpack_eq
  intro j hj
  have hb : i / 64 < (pack L).length := by rw [pack_length]; omega
  by_cases hij : j = i
  · subst hij
    cases v
    · simp [bitAt_clrBit _ _ _ hb, List.getD, h]
    · simp [bitAt_setBit _ _ _ hb, List.getD, h]
  · have hg : (L.set i v).getD j false = L.getD j false := by simp [List.getD, List.getElem?_set_ne (Ne.symm hij)]
    rw [hg]
    cases v
    · simp [bitAt_clrBit _ _ _ hb, bitAt_pack, hij]
    · simp [bitAt_setBit _ _ _ hb, bitAt_pack, hij]

/-- a list in which a bit is put -/
def putL (L : List Bool) (i : Nat) (v : Bool) : List Bool := if i < L.length then L.set i v else L

theorem put_any (v : Value) (L : List Bool) (i : Nat) (x : Bool) (w : World) (h : Bools w v L) (hl : 0 < L.length) (hn : L.length ≤ 4294967296) (hi : i < 4294967296) :
    Calls Try.prog 8 #[v, .int .i64 i, .bool x] w fun e w' => ∃ v', e = .returned (.tuple #[v', .bool (decide (i < L.length))]) ∧ Bools w' v' (putL L i x) ∧ Keep w w' := by
  have HA := Lib.hid (array_any v L w h hl hn)
  obtain ⟨A, c, rfl, h1, h2, h3, h4⟩ := h
  clear h4
  go_enter Try.func8, Try.ntmps8
  go_wp2_with (go_at_call 26; refine HA.out.mono ?_; rintro e w1 ⟨b, g, rfl, hb, hg, hba, hk⟩)
  have HB := Lib.hid hba
  have HK := Lib.hid hk
  clear hba hk
  go_wp2_with (go_at_call 27; refine (SetIndex_any b g L.length (pack L) i x w1 HB.out hi).mono ?_; rintro e w2 ⟨rfl, hp, hk2⟩)
  have HP := Lib.hid hp
  have HK2 := Lib.hid hk2
  clear hp hk2
  have hb2 : ∃ ws, BA w2 b g L.length ws ∧ unpack ws L.length = putL L i x := by
    have hp := HP.out
    unfold SetPost at hp
    unfold putL
    split at hp
    · rename_i hlt
      exact ⟨_, hp, by rw [if_pos hlt, unpack_put _ _ _ hlt]⟩
    · rename_i hlt
      subst hp
      exact ⟨_, HB.out, by rw [if_neg hlt, unpack_pack]⟩
  obtain ⟨ws, hws, hu⟩ := hb2
  have HW := Lib.hid hws
  have HU := Lib.hid hu
  clear hws hu
  go_wp2_with (go_at_call 28; refine (list_any b g L.length ws w2 HW.out).mono ?_; rintro e w3 ⟨v', rfl, hv, hk3⟩)
  go_ret2
  refine ⟨_, rfl, by rw [← HU.out]; exact hv, (HK.out.trans' HK2.out fun j hj e => ?_).trans hk3⟩
  omega
theorem putL_length (L : List Bool) (i : Nat) (v : Bool) : (putL L i v).length = L.length := by unfold putL; split <;> simp

theorem own_bools {w : World} {base : Nat} {v : Value} {L : List Bool} (h : Own w base 4 v (L.map Value.bool)) : Bools w v L := Own.slc_map Value.bool h fun _ _ => rfl

/-- behind the sign: the rest of the walk, i the place -/
def PutRest (e : Ending) (w w' : World) : Prop := e = .returned (.bool true) ∧ Keep w w'

set_option maxHeartbeats 2000000 in
set_option maxRecDepth 100000 in
theorem fnPut_walk (v : Value) (L : List Bool) (at_ : Int) (x : Bool) (w : World) (h : Bools w v L) (hl : -9223372036854775808 ≤ at_) (hr : at_ ≤ 9223372036854775807) :
    Calls Try.prog 3 #[v, .int .i64 at_, .bool x] w fun e w' => PutRest e w w' := by
  have HF := Lib.hid (few_any v L w h)
  obtain ⟨A, c, rfl, h1, h2, h3, h4⟩ := h
  clear h4 h3
  unfold maxLen at h2
  have hlen : (L.take 500).length = min 500 L.length := List.length_take
  by_cases hbig : L.length ≤ 2147483647
  · obtain ⟨L', hL'⟩ : ∃ L', L' = L.take 500 := ⟨_, rfl⟩
    rw [← hL'] at HF hlen
    clear hL'
    by_cases h0 : L.length = 0
    · have hle : L'.length = 0 := by omega
      obtain rfl : L' = [] := List.eq_nil_of_length_eq_zero hle
      clear hle hlen
      have H0 := Lib.hid h0
      clear h0
      go_enter Try.func3, Try.ntmps3
      go_wp2_with (go_at_call 7; refine HF.out.mono ?_; rintro e w1 ⟨v', rfl, ⟨A', c', rfl, g1, g2, g3, g4⟩, rfl⟩; clear g1 g2 g3 g4; simp only [List.length_nil])
      go_ret
      exact ⟨rfl, Kp.refl _ _⟩
    · have hp0 : 0 < L'.length := by omega
      have hp5 : L'.length ≤ 500 := by omega
      have hne : ¬ L' = [] := by rintro rfl; simp at hp0
      clear hlen h0
      have hr1 := Int.tmod_lt_of_pos at_ (show (0 : Int) < (L'.length : Int) + 70 by omega)
      have hr2 := Int.lt_tmod_of_pos at_ (show (0 : Int) < (L'.length : Int) + 70 by omega)
      obtain ⟨i, hi5, hi, hi'⟩ : ∃ i : Nat, i < 570 ∧ (at_.tmod (↑L'.length + 70) < 0 → wrap64 (-at_.tmod (↑L'.length + 70)) = (i : Int)) ∧ (¬ at_.tmod (↑L'.length + 70) < 0 → at_.tmod (↑L'.length + 70) = (i : Int)) := by
        generalize at_.tmod (↑L'.length + 70) = r at hr1 hr2
        refine ⟨r.natAbs, by omega, fun _ => ?_, fun _ => by omega⟩
        unfold wrap64; omega
      have HI := Lib.hid hi
      have HI' := Lib.hid hi'
      clear hi hi' hr1 hr2
      by_cases hs : at_.tmod (↑L'.length + 70) < 0
      all_goals
        have HQ : Hid ((if at_.tmod (↑L'.length + 70) < 0 then wrap64 (-at_.tmod (↑L'.length + 70)) else at_.tmod (↑L'.length + 70)) = (i : Int)) := Lib.hid (by
          first | (rw [if_pos hs]; exact HI.out hs) | (rw [if_neg hs]; exact HI'.out hs))
        first | rw [if_pos hs] at HQ | rw [if_neg hs] at HQ
        clear HI HI'
        by_cases hlt : i < L'.length
        all_goals
          go_enter Try.func3, Try.ntmps3
          go_wp2_with (go_at_call 7; refine HF.out.mono ?_; rintro e w1 ⟨v', rfl, hv', rfl⟩; have HV := Lib.hid hv'; obtain ⟨A', c', rfl, g1, g2, g3, g4⟩ := hv'; clear g4 g3)
          rw [HQ.out]
          refine (put_any _ L' i x _ HV.out hp0 (by omega) (by omega)).mono ?_
          rintro e w2 ⟨v2, rfl, hv2, hk2⟩
          have HV2 := Lib.hid hv2
          obtain ⟨A2, c2, rfl, u1, u2, u3, u4⟩ := hv2
          have HK2 := Lib.hid hk2
          clear u1 u2 u3 u4 hk2 HQ hs
          go_wp2_with (first
            | (go_at_call 9; refine (clone_any _ L' w2 (HV.out.keep HK2.out) (by omega)).mono ?_; rintro e w3 ⟨v3, rfl, hv3, hk3⟩; have HV3 := Lib.hid hv3; have HK3 := Lib.hid hk3; obtain ⟨A3, c3, rfl, d1, d2, d3, d4⟩ := hv3.form; simp only [List.length_map] at d1 d2 d3 d4 HV3; obtain ⟨g3, rfl, hg3, hc3⟩ := d4 hp0; have hc4 : i < L'.length → w3.cell? ⟨g3, i, none⟩ = some (.bool (L'.getD i false)) := fun h => (by have := hc3 i (by simpa using h); simpa [h] using this); have hf3 := World.ownsRow.frozenAt hv3 i; clear hv3 hk3 d1 d2 d3 d4 hc3))
          have hkw : Keep w w3 := HK2.out.trans HK3.out
          first
            | (have hs3 : Keep w2 (w3.setCell ⟨g3, i, none⟩ (.bool x)) := HK3.out.setCell (p := ⟨g3, i, none⟩) (fun hh => by simp at hh; omega) _
               have hb3 : Bools (w3.setCell ⟨g3, i, none⟩ (.bool x)) (.slice (some ⟨g3, 0, none⟩) L'.length c3) (L'.set i x) := by
                 have := HV3.out.set_ i (.bool x)
                 rw [← List.map_set] at this
                 exact own_bools this
               refine (equal_any _ _ _ _ _ (HV2.out.keep hs3) hb3).mono ?_
               rintro e w4 ⟨rfl, hk4⟩
               have HE := Lib.hid (show (putL L' i x == L'.set i x) = true by simp [putL, hlt])
               rw [HE.out]
               go_wp2
               go_ret
               exact ⟨rfl, (HK2.out.trans hs3).trans hk4⟩)
            | (refine (equal_any _ _ _ _ _ (HV2.out.keep HK3.out) (own_bools HV3.out)).mono ?_
               rintro e w4 ⟨rfl, hk4⟩
               have HE := Lib.hid (show (putL L' i x == L') = true by simp [putL, hlt])
               rw [HE.out]
               go_wp2
               go_ret
               exact ⟨rfl, hkw.trans hk4⟩)
  · go_enter Try.func3, Try.ntmps3
    go_wp2
    go_ret
    exact ⟨rfl, Kp.refl _ _⟩
end Go.Proofs.Ytfodkjpjejoemaa
