/-
  FnTold's walk: bits are told as they are.
  Conditions: the argument reads as a list of bools; the library's table of powers of ten reads as its numbers.
-/
import Derived.Test.YtfodkjpjejoemaaDoorTold8
import Derived.Test.YtfodkjpjejoemaaDoorSame
import Derived.Deep.DeepCutAuto
namespace Go.Proofs.YtfodkjpjejoemaaDoor
open Go Go.RowKit
attribute [local go_sem ↓] Go.wp_at_zero Go.wp_at_succ

/-- the two texts -/
def MarksIs (L : List Bool) (e : Ending) : Prop := ∃ T J : ByteArray, e = .returned (.tuple #[.string T, .string J]) ∧ T.data.toList.filter isMark = marksL L ∧ T.size ≤ 100000 ∧ J.data.toList = 34 :: (marksL L ++ [34])

set_option maxRecDepth 100000 in
set_option maxHeartbeats 2000000 in
theorem iMarks_any (v : Value) (L : List Bool) (w : World) (h : Bools w v L) (hl : 0 < L.length) (hn : L.length ≤ 900) (ht : PTab w) :
    Calls Tryd.prog 41 #[v] w fun e w' => MarksIs L e ∧ Keep w w' := by
  have HA := Lib.hid (array_any v L w h hl (by omega))
  have HT := Lib.hid ht
  obtain ⟨A, c, rfl, h1, h2, h3, h4⟩ := h
  obtain ⟨J, hJ⟩ : ∃ J : ByteArray, J = ⟨(34 :: (marksL L ++ [34])).toArray⟩ := ⟨_, rfl⟩
  have HJ := Lib.hid hJ
  obtain ⟨N, hN⟩ : ∃ N, N = (34 :: (marksL L ++ [34])).length := ⟨_, rfl⟩
  have HN := Lib.hid hN
  clear h4 h3 ht hJ hN
  go_enter Tryd.func41, Tryd.ntmps41
  go_wp2_with (first
    | (go_at_call 71
       refine HA.out.mono ?_
       rintro e w1 ⟨b, g, rfl, hb, hg, hba, hk⟩
       have HB := Lib.hid hba
       have HK := Lib.hid hk
       clear hba hk)
    | (go_at_call 77
       refine (marshalJSON_any b g L _ HB.out (by omega)).mono ?_
       rintro e w2 ⟨⟨jv, rfl, hjv⟩, hk2⟩
       have HJV := Lib.hid hjv
       have HK2 := Lib.hid hk2
       obtain ⟨Aj, cj, rfl, j1, j2, -, -⟩ := hjv
       rw [← HN.out] at j1 HJV ⊢
       clear hk2))
  have hst : ∀ wz, Keep w2 wz → (convert 22 9 (.slice Aj N cj)).run Tryd.prog wz = .ok (.string J) wz := fun wz kz => by
    rw [byts_string (P := Tryd.prog) Tryd.underlying22 Tryd.underlying5 Tryd.underlying9 (Byts.keep HJV.out kz), HJ.out]
  have HST := Lib.hid hst
  have s0 := hst w2.drew ((Kp.refl _ _).drew)
  clear hst
  go_region_law (first
    | (go_simp; go_at_call 78
       refine (string_any b g L _ (HB.out.kp (HK2.out.trans ((Kp.refl (fun _ => False) w2).drew)) (fun x => x) (fun x => x)) hn (PTab.keep HT.out ((HK.out.trans HK2.out).trans ((Kp.refl (fun _ => False) w2).drew)))).mono ?_
       rintro e w3 ⟨⟨T, rfl, hT, hTz⟩, hk3⟩
       have hk23 : Keep w2 w3 := ((Kp.refl (fun _ => False) w2).drew).trans hk3
       have s1 := HST.out w3 hk23
       have HTT := Lib.hid hT
       have HK3 := Lib.hid ((HK.out.trans HK2.out).trans hk23)
       clear hT hk3 hk23))
  all_goals
    go_wp2_with fail
    go_ret2
    exact ⟨⟨T, J, rfl, HTT.out, hTz, by rw [HJ.out]⟩, HK3.out⟩

theorem iPacked_any (v : Value) (L : List Bool) (w : World) (h : Bools w v L) (hl : 0 < L.length) (hn : L.length ≤ 900) :
    Calls Tryd.prog 45 #[v] w fun e w' => (∃ v', e = .returned v' ∧ Byts w' v' (packB L)) ∧ Keep w w' := by
  have HA := Lib.hid (array_any v L w h hl (by omega))
  obtain ⟨A, c, rfl, h1, h2, h3, h4⟩ := h
  clear h4 h3
  go_enter Tryd.func45, Tryd.ntmps45
  go_wp2_with (first
    | (go_at_call 71
       refine HA.out.mono ?_
       rintro e w1 ⟨b, g, rfl, hb, hg, hba, hk⟩
       have HB := Lib.hid hba
       have HK := Lib.hid hk
       clear hba hk)
    | (go_at_call 81
       refine (bytes_any b g L _ HB.out hl hn).mono ?_
       rintro e w2 ⟨⟨v2, rfl, hb2⟩, hk2⟩
       have HB2 := Lib.hid hb2
       have HK2 := Lib.hid hk2
       clear hb2 hk2))
  go_ret
  exact ⟨⟨v2, rfl, HB2.out⟩, HK.out.trans HK2.out⟩

theorem two_marks (c : UInt8) : isMark c = true ↔ (c.toNat = 120 ∨ c.toNat = 95) := by
  unfold isMark
  rw [Bool.or_eq_true, beq_iff_eq, beq_iff_eq, ← UInt8.toNat_inj, ← UInt8.toNat_inj]
  rfl

set_option maxRecDepth 100000 in
set_option maxHeartbeats 8000000 in
theorem fnTold_walk (v : Value) (L0 : List Bool) (z : Int) (w : World) (h : Bools w v L0) (ht : PTab w) (hz1 : -9223372036854775808 ≤ z) (hz2 : z ≤ 9223372036854775807) :
    Calls Tryd.prog 11 #[v, .int .i64 z] w fun e w' => e = .returned (.bool true) ∧ Keep w w' := by
  have HF := Lib.hid (few_any v L0 w h)
  have HT := Lib.hid ht
  obtain ⟨A0, c0, rfl, h1, h2, h3, h4⟩ := h
  clear h4 h3 ht
  unfold maxLen at h2
  have hlen : (L0.take 500).length = min 500 L0.length := List.length_take
  by_cases hbig : L0.length ≤ 2147483647
  · obtain ⟨L, hL⟩ : ∃ L, L = L0.take 500 := ⟨_, rfl⟩
    rw [← hL] at HF hlen
    clear hL
    by_cases h0 : L0.length = 0
    · have hle : L.length = 0 := by omega
      obtain rfl : L = [] := List.eq_nil_of_length_eq_zero hle
      clear hle hlen h0
      go_enter Tryd.func11, Tryd.ntmps11
      go_wp2_with (go_at_call 38; refine HF.out.mono ?_; rintro e w1 ⟨v', rfl, ⟨A', c', rfl, g1, g2, g3, g4⟩, rfl⟩; clear g1 g2 g3 g4; simp only [List.length_nil])
      go_ret
      exact ⟨rfl, Kp.refl _ _⟩
    · have hp0 : 0 < L.length := by omega
      have hp5 : L.length ≤ 500 := by omega
      clear hlen h0
      obtain ⟨zn, hzn, hzn2⟩ : ∃ zn : Nat, max z (wrap64 (-wrap64 (z + 1))) = (zn : Int) ∧ zn ≤ 9223372036854775807 := by
        refine ⟨(max z (wrap64 (-wrap64 (z + 1)))).toNat, ?_, ?_⟩ <;> (unfold wrap64; omega)
      have HZ := Lib.hid hzn
      have hcl := cntF_le (fun j => L.getD j false) L.length
      have HTD := Lib.hid (fun (v : Value) (w : World) (h : Bools w v L) => told_any v L w h hp0 (by omega))
      have HPI := Lib.hid (fun (v : Value) (w : World) (h : Bools w v L) => picked_any v L zn w h hp0 (by omega) hzn2)
      have HMK := Lib.hid (fun (v : Value) (w : World) (h : Bools w v L) (ht : PTab w) => iMarks_any v L w h hp0 (by omega) ht)
      have HPK := Lib.hid (fun (v : Value) (w : World) (h : Bools w v L) => iPacked_any v L w h hp0 (by omega))
      have HSM := Lib.hid (fun (v : Value) (w : World) (h : Bools w v L) => specMarks_any v L w h hp0 (by omega))
      have HSP := Lib.hid (fun (v : Value) (w : World) (h : Bools w v L) => specPacked_any v L w h hp0 (by omega))
      have HRM := Lib.hid (fun (s : ByteArray) (w : World) (hd : s.data.toList = 34 :: (marksL L ++ [34])) => readMarks_any s L w hd hp0 (by omega))
      have HML := Lib.hid (marksL_length L)
      have HEQ := Lib.hid (show (L == L) = true by simp)
      have HEB := Lib.hid (show (packB L == packB L) = true by simp)
      obtain ⟨n, hnn⟩ : ∃ n, n = L.length := ⟨_, rfl⟩
      obtain ⟨N, hNN⟩ : ∃ N, N = cntL L L.length := ⟨_, rfl⟩
      have hNn : N ≤ n := by rw [hNN, hnn]; exact hcl
      have HN := Lib.hid hNN
      have HLN := Lib.hid hnn
      rw [← hnn] at hp0 hp5
      have HTU : Hid (∀ b1 b2 : Bool, b1 = decide (N = 0) → b2 = decide (N = n) → (Value.tuple #[.bool (decide (cntL L L.length = 0)), .bool (decide (cntL L L.length = L.length)), .int .i64 ((cntL L L.length : Nat) : Int)]) = .tuple #[.bool b1, .bool b2, .int .i64 (N : Int)]) := Lib.hid fun b1 b2 e1 e2 => by rw [e1, e2, hNN, hnn]
      clear hcl hzn hnn hNN
      rcases (show (N = 0 ∧ ¬ N = n) ∨ (0 < N ∧ ¬ N = n) ∨ (0 < N ∧ N = n) by omega) with ⟨q1, q2⟩ | ⟨q1, q2⟩ | ⟨q1, q2⟩
      all_goals
        have HTV := Lib.hid (HTU.out _ _ (by first | exact (decide_eq_true q1).symm | exact (decide_eq_false (by omega)).symm) (by first | exact (decide_eq_true q2).symm | exact (decide_eq_false q2).symm))
        have hok : Hid (decide (0 < cntL L L.length) = decide (0 < N)) := Lib.hid (by rw [← HN.out])
        first
          | (have p1 : ((N : Int) == 0) = true := by simp; omega
             have p3 : ¬ (0 : Int) < (N : Int) := by omega
             have HOK : Hid (decide (0 < N) = false) := Lib.hid (decide_eq_false (by omega)))
          | (have p1 : ((N : Int) == 0) = false := by simp; omega
             have p3 : (0 : Int) < (N : Int) := by omega
             have HOK : Hid (decide (0 < N) = true) := Lib.hid (decide_eq_true (by omega)))
        first
          | (have p2 : ((N : Int) == (n : Int)) = true := by simp; omega)
          | (have p2 : ((N : Int) == (n : Int)) = false := by simp; omega)
        have HQ1 := Lib.hid q1
        have HQ2 := Lib.hid q2
        clear q1 q2
        go_enter Tryd.func11, Tryd.ntmps11
        go_wp2_with (first
          | (go_at_call 38
             refine HF.out.mono ?_
             rintro e w1 ⟨v', rfl, hv', rfl⟩
             have HV := Lib.hid hv'
             obtain ⟨A', c', rfl, g1, g2, g3, g4⟩ := hv'
             obtain ⟨g0, o0, rfl, -⟩ := g4 (by rw [← HLN.out]; exact hp0)
             rw [← HLN.out] at g1 HV ⊢
             unfold maxLen at g2
             clear g3 g4)
          | (go_at_call 39
             refine (HTD.out _ _ HV.out).mono ?_
             rintro e w1 ⟨rfl, hk1⟩
             rw [HTV.out, HZ.out]
             have HK1 := Lib.hid hk1
             clear hk1))
        go_loop [8, 40] (fun wv iv => ∃ k s : Nat, k ≤ n ∧ iv = .int .i64 k ∧ wv = .int .i64 s ∧ Hid (s = cntL L k) ∧ s ≤ k) (fun _ iv => n - (intOf iv).toNat)
        case atStart => exact ⟨0, 0, Nat.zero_le _, rfl, rfl, Lib.hid rfl, Nat.le_refl _⟩
        case round =>
          obtain ⟨k, s, hk, rfl, rfl, HS, hs⟩ := hrel
          by_cases hlt : k < n
          · have hb := HK1.out.cell_of (bool_cell HV.out (k := k) (by rw [← HLN.out]; exact hlt)) (fun x => x)
            have HST := Lib.hid (show cntL L (k + 1) = cntL L k + (if L.getD k false = true then 1 else 0) from rfl)
            cases hv : L.getD k false
            · rw [hv] at hb HST
              clear hv
              go_wp2_with fail
              go_round
              case rel => exact ⟨k + 1, s, hlt, by go_num, by go_num, Lib.hid (by rw [HST.out, HS.out]; simp), by omega⟩
              case measure => simp [intOf]; omega
            · rw [hv] at hb HST
              clear hv
              go_wp2_with fail
              go_round
              case rel => exact ⟨k + 1, s + 1, hlt, by go_num, by go_num, Lib.hid (by rw [HST.out, HS.out]; simp), by omega⟩
              case measure => simp [intOf]; omega
          · obtain rfl : k = n := by omega
            have hsN : s = N := by rw [HS.out, HN.out, HLN.out]
            subst hsN
            clear hs HS
            go_wp2_with (first
              | (go_at_call 40
                 refine (HPI.out _ _ (HV.out.keep HK1.out)).mono ?_
                 rintro e w2 ⟨⟨a, rfl, ha1, ha2⟩, hk2⟩
                 rw [hok.out, HOK.out]
                 rw [← HN.out, ← HLN.out] at ha2
                 rw [← HLN.out] at ha1
                 have HA2 := Lib.hid ha2
                 have HK2 := Lib.hid (HK1.out.trans hk2)
                 clear ha2 hk2)
              | (go_at_call 41
                 refine (HMK.out _ _ (HV.out.keep HK2.out) (PTab.keep HT.out HK2.out)).mono ?_
                 rintro e w3 ⟨⟨T, J, rfl, hT, hTz, hJ⟩, hk3⟩
                 have HTT := Lib.hid hT
                 have HJJ := Lib.hid hJ
                 have HK3 := Lib.hid (HK2.out.trans hk3)
                 clear hT hJ hk3)
              | (go_at_call 42
                 refine (HRM.out J _ HJJ.out).mono ?_
                 rintro e w4 ⟨⟨v4, rfl, hv4⟩, hk4⟩
                 have HV4 := Lib.hid hv4
                 have HK4 := Lib.hid (HK3.out.trans hk4)
                 clear hv4 hk4))
            go_loop [17, 66] (fun mv iv => ∃ (i : Nat) (S : ByteArray), i ≤ T.size ∧ iv = .int .i64 i ∧ mv = .string S ∧ Hid (S.data.toList = (T.data.toList.take i).filter isMark) ∧ S.size ≤ i) (fun _ iv => T.size - (intOf iv).toNat)
            case atStart => exact ⟨0, ⟨#[]⟩, Nat.zero_le _, rfl, rfl, Lib.hid (by simp), Nat.le_refl _⟩
            case round =>
              obtain ⟨i, S, hi, rfl, rfl, HS, hs⟩ := hrel
              by_cases hlt : i < T.size
              · have hil : i < T.data.toList.length := by rw [← size_data]; exact hlt
                have hx := fun w => idxS T i hlt w
                obtain ⟨ch, hch⟩ : ∃ ch, ch = T.data.toList[i] := ⟨_, rfl⟩
                rw [← hch] at hx
                obtain ⟨D, hD⟩ : ∃ D : ByteArray, D = T.extract i (i + 1) := ⟨_, rfl⟩
                have hsl : ∀ w, (Instr.slice 9 (.string T) (some (.int .i64 (i : Int))) (some (.int .i64 ((i : Int) + 1))) none).run Tryd.prog w = .ok (.string D) w := fun w => by
                  rw [run_slice_string w _ T .i64 .i64 i (i + 1) Tryd.underlying9 (by omega) (by omega) (by omega), hD]
                  rfl
                have hDd : D.data.toList = [ch] := by
                  rw [hD, ← ByteArray.toList_eq, Lib.extract_toList, drop_at _ i hil, show i + 1 - i = 1 by omega, List.take_succ_cons, List.take_zero, hch]
                obtain ⟨S1, hS1⟩ : ∃ S1 : ByteArray, S1 = ⟨(S.data.toList ++ [ch]).toArray⟩ := ⟨_, rfl⟩
                have hS1d : S1.data.toList = S.data.toList ++ [ch] := by rw [hS1]
                have hS1z : S1.size = S.size + 1 := by rw [size_data, hS1d, List.length_append, ← size_data]; rfl
                have hDz : D.size = 1 := by rw [size_data, hDd]; rfl
                have a1 := addS S D S1 (by rw [hS1d, hDd]) (by omega)
                have HST := Lib.hid (show (T.data.toList.take (i + 1)).filter isMark = (T.data.toList.take i).filter isMark ++ (if isMark ch = true then [ch] else []) by
                  rw [take_snoc _ i hil, List.filter_append, ← hch]
                  congr 1
                  cases hm : isMark ch <;> simp [hm])
                have HS1 := Lib.hid hS1d
                obtain ⟨m, hm⟩ : ∃ m, m = ch.toNat := ⟨_, rfl⟩
                have hmk := two_marks ch
                rw [← hm] at hx hmk
                have HMK2 := Lib.hid hmk
                clear hch hD hDd hS1 hS1d hm hmk hil
                by_cases h120 : m = 120
                · subst h120
                  have hb : isMark ch = true := HMK2.out.2 (.inl rfl)
                  rw [if_pos hb] at HST
                  clear hb
                  go_wp2_with fail
                  go_round
                  case rel => exact ⟨i + 1, S1, hlt, by go_num, rfl, Lib.hid (by rw [HS1.out, HST.out, HS.out]), by omega⟩
                  case measure => simp [intOf]; omega
                · by_cases h95 : m = 95
                  · subst h95
                    have hb : isMark ch = true := HMK2.out.2 (.inr rfl)
                    rw [if_pos hb] at HST
                    clear hb h120
                    go_wp2_with fail
                    go_round
                    case rel => exact ⟨i + 1, S1, hlt, by go_num, rfl, Lib.hid (by rw [HS1.out, HST.out, HS.out]), by omega⟩
                    case measure => simp [intOf]; omega
                  · have hb : ¬ isMark ch = true := fun h => by rcases HMK2.out.1 h with h | h <;> omega
                    rw [if_neg hb, List.append_nil] at HST
                    have b1 : ((m : Int) == 120) = false := by simp; omega
                    have b2 : ((m : Int) == 95) = false := by simp; omega
                    clear hb h120 h95
                    go_wp2_with fail
                    go_round
                    case rel => exact ⟨i + 1, S, hlt, by go_num, rfl, Lib.hid (by rw [HST.out, HS.out]), by omega⟩
                    case measure => simp [intOf]; omega
              · obtain rfl : i = T.size := by omega
                have hSd : S.data.toList = marksL L := by
                  rw [HS.out, List.take_of_length_le (by rw [← size_data]; exact Nat.le_refl _)]
                  exact HTT.out
                have hSz : S.size ≤ 500 := by rw [size_data, hSd, HML.out, ← HLN.out]; exact hp5
                have hsame : ∀ S2 : ByteArray, S2.data.toList = marksL L → S2 = S := fun S2 h2 => by
                  apply ByteArray.ext
                  apply Array.toList_inj.1
                  rw [h2, hSd]
                have HSA := Lib.hid hsame
                obtain ⟨K1, hK1⟩ : ∃ K1 : ByteArray, K1 = ⟨(34 :: marksL L).toArray⟩ := ⟨_, rfl⟩
                have hK1d : K1.data.toList = 34 :: marksL L := by rw [hK1]
                have hK1z : K1.size ≤ 501 := by rw [size_data, hK1d, List.length_cons, ← hSd, ← size_data]; omega
                have a1 := addS { data := #[34] } S K1 (by rw [hK1d, hSd]; rfl) (by have : ({ data := #[34] } : ByteArray).size = 1 := rfl; omega)
                have a2 := addS K1 { data := #[34] } J (by rw [HJJ.out, hK1d]; rfl) (by have : ({ data := #[34] } : ByteArray).size = 1 := rfl; omega)
                clear hSd hsame hK1 hK1d hs HS
                first
                  | (have hpos : 0 < s := HQ1.out
                     obtain ⟨ha3, ha4⟩ := HA2.out hpos
                     have hca := HK4.out.cell_of (bool_cell HV.out (k := a) (by rw [← HLN.out]; exact ha3)) (fun x => x)
                     rw [ha4] at hca
                     clear ha4)
                  | skip
                go_upto_region 25 with fail
                dsimp only [List.append]
                go_wp2_with (first
                  | (go_at_call 43; first
                     | (refine (HSM.out _ _ (HV.out.keep HK6.out)).mono ?_
                        rintro e w7 ⟨⟨S2, rfl, hS2⟩, hk7⟩
                        rw [HSA.out S2 hS2]
                        have HK7 := Lib.hid (HK6.out.trans hk7)
                        have HK47 := Lib.hid (HK46.out.trans hk7)
                        clear hS2 hk7)
                     | (refine (HSM.out _ _ (HV.out.keep HK4.out)).mono ?_
                        rintro e w6 ⟨⟨S2, rfl, hS2⟩, hk6⟩
                        rw [HSA.out S2 hS2]
                        have HK6 := Lib.hid (HK4.out.trans hk6)
                        have HK46 := Lib.hid hk6
                        clear hS2 hk6))
                  | (go_at_call 44
                     refine (equal_any _ _ L L _ (HV4.out.keep HK47.out) (HV.out.keep HK7.out)).mono ?_
                     rintro e w8 ⟨rfl, hk8⟩
                     rw [HEQ.out]
                     have HK8 := Lib.hid (HK7.out.trans hk8)
                     clear hk8)
                  | (go_at_call 45
                     refine (HPK.out _ _ (HV.out.keep HK8.out)).mono ?_
                     rintro e w9 ⟨⟨v9, rfl, hv9⟩, hk9⟩
                     have HV9 := Lib.hid hv9
                     have HK9 := Lib.hid (HK8.out.trans hk9)
                     clear hv9 hk9)
                  | (go_at_call 46
                     refine (HSP.out _ _ (HV.out.keep HK9.out)).mono ?_
                     rintro e w10 ⟨⟨v10, rfl, hv10⟩, hk10⟩
                     have HV10 := Lib.hid hv10
                     have HV9b := Lib.hid (Byts.keep HV9.out hk10)
                     have HK10 := Lib.hid (HK9.out.trans hk10)
                     clear hv10 hk10)
                  | (go_at_call 18
                     refine (same2_any _ _ (packB L) (packB L) _ HV9b.out HV10.out).mono ?_
                     rintro e w11 ⟨rfl, rfl⟩
                     rw [HEB.out]))
                go_ret
                exact ⟨rfl, HK10.out⟩
  · go_enter Tryd.func11, Tryd.ntmps11
    go_wp2
    go_ret
    exact ⟨rfl, Kp.refl _ _⟩
end Go.Proofs.YtfodkjpjejoemaaDoor
