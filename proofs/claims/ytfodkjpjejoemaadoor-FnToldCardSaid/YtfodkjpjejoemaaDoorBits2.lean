/-
  Lists of bits between the thin package and the package: array, list; slices.Equal and slices.Clone of bools; few.
  Conditions: the arguments read as lists of bools, the array is known whole.
-/
import Derived.Test.YtfodkjpjejoemaaDoorBits1
import Derived.Test.YtfodkjpjejoemaaDoorApp
import Derived.Deep.QuietTactic
import Derived.BigQuiet
import Derived.WalkSpells
namespace Go.Proofs.YtfodkjpjejoemaaDoor
open Go Go.RowKit

theorem appBool : AppOk Tryd.prog 50 4 1 := by
  obtain ⟨i0, hi, hz0, hz1, hz2⟩ := info_parts (show (Tryd.prog.info? 4).map (fun i => (i.zero, i.size, i.bytes)) = some (some (.bool false), 1, 1) by kernel_rfl)
  exact ⟨Tryd.underlying50, by omega, i0, _, hi, hz0, hz1, hz2, rfl⟩

theorem array_any (v : Value) (L : List Bool) (w : World) (h : Bools w v L) (hl : 0 < L.length) (hn : L.length ≤ 4294967296) :
    Calls Tryd.prog 71 #[v] w fun e w' => ∃ b g, e = .returned (.pointer (some ⟨b, 0, none⟩)) ∧ w.heap.size ≤ b ∧ w.heap.size ≤ g ∧ BA w' b g L.length (pack L) ∧ Keep w w' := by
  have hk0 : Keep w (w.alloc (.cells #[v] 50)) := (Kp.refl _ _).alloc _
  have HF := Lib.hid (fromFn_any v L w.heap.size (w.alloc (.cells #[v] 50)) (by simp) (h.keep hk0) hl hn)
  obtain ⟨A, c, rfl, h1, h2, h3, h4⟩ := h
  clear h4
  go_enter Tryd.func71, Tryd.ntmps71
  go_wp2_with (go_at_call 101; refine HF.out.mono ?_; rintro e w1 ⟨b, g, rfl, hb, hg, hba, hk⟩)
  go_ret
  exact ⟨b, g, rfl, by simp at hb; omega, by simp at hg; omega, hba, hk0.trans hk⟩

/-- the bits of an array as a list -/
def unpack (ws : List Nat) (n : Nat) : List Bool := (List.range n).map fun j => bitAt ws j
theorem unpack_length (ws : List Nat) (n : Nat) : (unpack ws n).length = n := by simp [unpack]

set_option maxHeartbeats 1000000 in
theorem list_any (b g n : Nat) (ws : List Nat) (w : World) (h : BA w b g n ws) :
    Calls Tryd.prog 80 #[.pointer (some ⟨b, 0, none⟩)] w fun e w' => ∃ v, e = .returned v ∧ Bools w' v (unpack ws n) ∧ Keep w w' := by
  have hn := h.bound
  have H := Lib.hid h
  have HS := Lib.hid (Size_any b g n ws w h)
  clear h
  go_enter Tryd.func80, Tryd.ntmps80
  go_wp2_with (go_at_call 110; refine HS.out.mono ?_; rintro e w' ⟨rfl, rfl⟩)
  go_loopw [3, 7] (fun v i wr => ∃ k : Nat, k ≤ n ∧ i = .int .i64 k ∧ Own wr w.heap.size 4 v ((unpack ws k).map Value.bool) ∧ Keep w wr) (fun _ i _ => n - (intOf i).toNat)
  case atStart => exact ⟨0, Nat.zero_le _, rfl, Own.nil_ _ _ _, Kp.refl _ _⟩
  case round =>
    obtain ⟨k, hk, rfl, hown, hkp⟩ := hrel
    by_cases hlt : k < n
    · have HG := Lib.hid (GetIndex_any b g n ws k wr (H.out.kp hkp (fun x => x) (fun x => x)) (by omega))
      have hz := hkp.size
      have hul : ((unpack ws k).map Value.bool).length = k := by simp [unpack_length]
      have HU := Lib.hid hul
      have HO := Lib.hid hown
      have HK := Lib.hid hkp
      clear hown hkp hul
      have hd : decide (k < n) = true := by simpa using hlt
      have HD := Lib.hid hd
      clear hd
      go_wp2_with (first
        | (go_at_call 111; refine HG.out.mono ?_; rintro e w' ⟨rfl, rfl⟩; rw [HD.out, Bool.true_and])
        | (at_builtin; refine wpList_app rfl (.tmp 10) (.tmp 14) _ rfl appBool rfl (HO.out.alloc _) rfl (news := [.bool (bitAt ws k)]) (Src.one (by simp)) ?c1 ?c2 ?c3 ?c4 ?_))
      case c1 => intro u hu; simp at hu; subst hu; rfl
      case c2 => intro x; cases x
      case c3 => rw [HU.out]; omega
      case c4 => simp; omega
      · intro v' w1 hown' hk1 hat
        have HK1 := Lib.hid hk1
        have HO1 := Lib.hid hown'
        clear hk1 hown' hat
        go_wp2
        go_roundw
        case rel =>
          refine ⟨k + 1, by omega, by go_num, ?_, (HK.out.alloc _).trans' HK1.out fun i hi he => ?_⟩
          · have e : (unpack ws (k + 1)).map Value.bool = (unpack ws k).map Value.bool ++ [.bool (bitAt ws k)] := by
              unfold unpack; rw [List.range_succ]; simp
            rw [e]; exact HO1.out
          · have := HO.out.lt i he.symm
            omega
        case measure => simp [intOf]; omega
    · obtain rfl : k = n := by omega
      have HO := Lib.hid hown
      have HK := Lib.hid hkp
      clear hown hkp
      go_wp2
      go_ret
      exact ⟨_, rfl, Own.slc_map Value.bool HO.out fun _ _ => rfl, HK.out⟩
theorem unpack_eq (ws : List Nat) (L : List Bool) (h : ∀ j, j < L.length → bitAt ws j = L.getD j false) : unpack ws L.length = L := by
  apply List.ext_getElem
  · simp [unpack]
  · intro j h1 h2
    simp [unpack, h j h2, List.getD, h2]
theorem unpack_pack (L : List Bool) : unpack (pack L) L.length = L := unpack_eq _ _ fun j _ => bitAt_pack L j
theorem pack_length (L : List Bool) : (pack L).length = (L.length + 63) / 64 := packTo_length _ _ _
theorem few_any (v : Value) (L : List Bool) (w : World) (h : Bools w v L) :
    Calls Tryd.prog 38 #[v] w fun e w' => ∃ v', e = .returned v' ∧ Bools w v' (L.take 500) ∧ w = w' := by
  obtain ⟨A, c, rfl, h1, h2, h3, h4⟩ := h
  have H := Lib.hid (show Bools w (.slice A L.length c) L from ⟨A, c, rfl, h1, h2, h3, h4⟩)
  clear h4 h3
  unfold maxLen at h2
  go_enter Tryd.func38, Tryd.ntmps38
  go_wp2
  · go_ret
    exact ⟨_, rfl, Slc.take_ H.out 500 (by omega), rfl⟩
  · go_ret
    exact ⟨_, rfl, by rw [List.take_of_length_le (by omega)]; exact H.out, rfl⟩

set_option maxHeartbeats 800000 in
theorem equal_any (v1 v2 : Value) (L1 L2 : List Bool) (w : World) (h1 : Bools w v1 L1) (h2 : Bools w v2 L2) :
    Calls Tryd.prog 44 #[v1, v2] w fun e w' => e = .returned (.bool (L1 == L2)) ∧ Keep w w' := by
  obtain ⟨A1, c1, rfl, a1, a2, a3, a4⟩ := h1
  obtain ⟨A2, c2, rfl, b1, b2, b3, b4⟩ := h2
  have HA := Lib.hid a4
  have HB := Lib.hid b4
  clear a4 b4 a3 b3
  unfold maxLen at a2 b2
  by_cases hl : L1.length = L2.length
  · have h11 : L1.length ≤ 9223372036854775807 := by omega
    have HL := Lib.hid hl
    have hd : ((L1.length : Int) != (L2.length : Int)) = false := by simp; omega
    clear hl a1 a2 b1 b2
    go_enter Tryd.func44, Tryd.ntmps44
    go_wp2
    clear hd
    go_loopw [13] (fun i wr => ∃ k q : Nat, k ≤ L1.length ∧ i = .int .i64 k ∧ L1.take k = L2.take k ∧ wr = w.drewN q) (fun i _ => L1.length - (intOf i).toNat)
    case atStart => exact ⟨0, 0, Nat.zero_le _, rfl, rfl, rfl⟩
    case round =>
      obtain ⟨k, q, hk, rfl, ht, rfl⟩ := hrel
      have HT := Lib.hid ht
      clear ht
      by_cases hlt : k < L1.length
      · have hlt2 : k < L2.length := by have := HL.out; omega
        obtain ⟨b, off, rfl, hc⟩ := HA.out (by omega)
        obtain ⟨u, hu, hr⟩ := hc k hlt
        obtain ⟨x, hx⟩ : ∃ x, x = L1[k] := ⟨_, rfl⟩
        obtain rfl : u = .bool x := by rw [hx]; exact hr
        obtain ⟨b', off', rfl, hc'⟩ := HB.out (by omega)
        obtain ⟨u', hu', hr'⟩ := hc' k hlt2
        obtain ⟨y, hy⟩ : ∃ y, y = L2[k] := ⟨_, rfl⟩
        obtain rfl : u' = .bool y := by rw [hy]; exact hr'
        have HX := Lib.hid hx
        have HY := Lib.hid hy
        clear hc hc' HA HB hr hr' hx hy
        have i1 : (0 : Int) ≤ (k : Int) := by omega
        have i2 : (k : Int) < (L1.length : Int) := by omega
        have i3 : (k : Int) < (L2.length : Int) := by omega
        by_cases hs : x = y
        · cases x
          all_goals
            subst hs
            go_wp2
            go_quiet (fail)
            go_wp2
            go_roundw
            case rel => exact ⟨k + 1, _, by omega, by go_num, by rw [List.take_succ_eq_append_getElem hlt, List.take_succ_eq_append_getElem hlt2, HT.out, ← HX.out, ← HY.out], rfl⟩
            case measure => simp [intOf]; omega
        · cases x
          all_goals
            cases y
            all_goals first | exact absurd rfl hs | skip
            clear hs
            go_wp2
            go_quiet (fail)
            go_wp2
            go_ret
            refine ⟨ret_b ?_, ((Kp.refl _ w).drewN q).drewN _⟩
            have : L1 ≠ L2 := fun e => by
              have h1 := HX.out
              have h2 := HY.out
              subst e
              rw [← h2] at h1
              cases h1
            simp [this]
      · go_wp2
        go_ret
        refine ⟨ret_b ?_, (Kp.refl _ _).drewN _⟩
        have := HT.out
        have := HL.out
        rw [List.take_of_length_le (by omega), List.take_of_length_le (by omega)] at *
        simp [*]
  · have hd : ((L1.length : Int) != (L2.length : Int)) = true := by simp; omega
    have HL := Lib.hid hl
    clear hl
    go_enter Tryd.func44, Tryd.ntmps44
    go_wp2
    go_ret
    refine ⟨ret_b ?_, Kp.refl _ _⟩
    have : L1 ≠ L2 := fun e => HL.out (by rw [e])
    simp [this]
end Go.Proofs.YtfodkjpjejoemaaDoor
