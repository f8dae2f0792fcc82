
/-
  The keys of a path: the specification's walked.
  Conditions: the length is bounded.
-/
import Derived.Test.YtfodkjpjejoemaaGreatDoorZq
namespace Go.Proofs.YtfodkjpjejoemaaGreatDoor
open Go Go.RowKit
attribute [local go_sem ↓] Go.wp_at_zero Go.wp_at_succ

theorem not_prefix (a : List UInt8) (S3 : ByteArray) (h2 : 2 ≤ a.length) (h3 : S3.data.toList = a.take 2) : (S3.toList == [120, 58]) = Lib.hasPrefix a [120, 58] := by
  rw [ByteArray.toList_eq, h3]
  unfold Lib.hasPrefix
  match a, h2 with
  | x :: y :: t, _ =>
    rw [Bool.eq_iff_iff]
    simp [List.isPrefixOf]
    constructor
    · rintro ⟨rfl, rfl⟩; exact ⟨rfl, rfl⟩
    · rintro ⟨rfl, rfl⟩; exact ⟨rfl, rfl⟩

theorem hexD_two (a b : UInt8) (t : List UInt8) (h : ¬ (dg a < 0 ∨ dg b < 0)) : hexD (a :: b :: t) = (hexD t).map (two a b :: ·) := by rw [hexD, if_neg h]
theorem hexD_bad (a b : UInt8) (t : List UInt8) (h : dg a < 0 ∨ dg b < 0) : hexD (a :: b :: t) = none := by rw [hexD, if_pos h]

set_option maxRecDepth 100000 in
set_option maxHeartbeats 8000000 in
theorem specKeys_any (s : ByteArray) (w : World) (hs : s.size ≤ 1099511626776) :
    Calls Tryz.prog 11 #[.string s] w fun e w' => EndsS w' (keysOf s.data.toList) e ∧ Keep w w' := by
  obtain ⟨L, hL⟩ : ∃ L, L = s.data.toList := ⟨_, rfl⟩
  have hLN : s.size = L.length := by rw [hL, size_data]
  have hsl : s.toList = L := by rw [hL]; exact ByteArray.toList_eq s
  have HI : Hid (∀ (k : Nat) (h : k < L.length) (w : World), (Instr.index 9 (.string s) (.int .i64 (k : Int))).run Tryz.prog w = .ok (.int .u8 ((L[k].toNat : Nat) : Int)) w) := Lib.hid fun k h w => by
    subst hL
    exact idx_data s k (by rw [size_data]; exact h) w
  have HL := Lib.hid hL
  rw [← hL]
  clear hL
  by_cases hL0 : L = []
  · subst hL0
    have hee : s.toList.isEmpty = true := by rw [hsl]; rfl
    clear HI
    go_enter Tryz.func11, Tryz.ntmps11
    go_wp2_with fail
    go_ret2
    exact ⟨rfl, Kp.refl _ _⟩
  obtain ⟨c, R, hcR⟩ : ∃ c R, L = c :: R := by
    cases L with
    | nil => exact absurd rfl hL0
    | cons c R => exact ⟨c, R, rfl⟩
  have hee : s.toList.isEmpty = false := by rw [hsl, hcR]; rfl
  have hN0 : 0 < L.length := by rw [hcR]; simp
  have hx := HI.out 0 hN0
  have hc0 : L[0] = c := by simp [hcR]
  rw [hc0] at hx
  replace hx : ∀ (w : World), (Instr.index 9 (.string s) (.int .i64 0)).run Tryz.prog w = .ok (.int .u8 (c.toNat : Int)) w := hx
  clear hsl hL0 hc0
  by_cases h47 : c = 47
  · subst h47
    replace hx : ∀ (w : World), (Instr.index 9 (.string s) (.int .i64 0)).run Tryz.prog w = .ok (.int .u8 47) w := hx
    have hkeys : keysOf L = keysL (segs R) := by rw [hcR]; simp [keysOf]
    rw [hkeys]
    obtain ⟨N, hN⟩ : ∃ N, N = L.length := ⟨_, rfl⟩
    have HN := Lib.hid hN
    have HCR := Lib.hid hcR
    rw [← hN] at hLN hN0
    have hs' : N ≤ 1099511626776 := by omega
    clear hkeys hN hcR
    go_enter Tryz.func11, Tryz.ntmps11
    go_wp2_with fail
    go_loopw [4, 5] (fun ov av wr => ∃ (k : Nat) (D rem : List (List UInt8)), k ≤ N ∧ av = .int .i64 k ∧ D.length ≤ k ∧ Left (L.drop k) rem ∧ Goes (keysL (segs R)) D (keysL rem) ∧ Outs wr w.heap.size ov D ∧ Keep w wr) (fun _ av _ => N - (intOf av).toNat)
    case atStart => exact ⟨0, [], segs R, Nat.zero_le _, rfl, Nat.le_refl _, .inr ⟨R, by rw [HCR.out]; rfl, rfl⟩, Goes.start _, Outs.nil_ _ _, Kp.refl _ _⟩
    case round =>
      obtain ⟨k, D, rem, hk, rfl, hDk, hleft, hgo, hout, hkp⟩ := hrel
      have HLE := Lib.hid hleft
      have HGO := Lib.hid hgo
      have HOU := Lib.hid hout
      have HKP := Lib.hid hkp
      have hwr := hkp.size
      clear hleft hgo hout hkp
      by_cases hlt : k < N
      · obtain ⟨wo, rfl⟩ : ∃ wo : World, wo = wr := ⟨_, rfl⟩
        go_wp2_with fail
        go_loopw [6] (fun ev wx => ∃ e : Nat, k + 1 ≤ e ∧ e ≤ N ∧ ev = .int .i64 e ∧ (∀ c ∈ (L.take e).drop (k + 1), c ≠ 47) ∧ wo = wx) (fun ev _ => N - (intOf ev).toNat)
        case atStart => exact ⟨k + 1, Nat.le_refl _, by omega, by go_num, by intro c hc; rw [List.drop_of_length_le (by rw [List.length_take]; omega)] at hc; simp at hc, by first | rfl | trivial⟩
        case round =>
          obtain ⟨e, hke, heN, rfl, hno, rfl⟩ := hrel
          have HNO := Lib.hid hno
          clear hno
          by_cases hgo : ∃ h : e < L.length, L[e] ≠ 47
          · obtain ⟨hel, hne⟩ := hgo
            have hlt2 : e < N := by rw [HN.out]; exact hel
            have hxe := HI.out e hel
            obtain ⟨q, hq⟩ : ∃ q, q = L[e] := ⟨_, rfl⟩
            rw [← hq] at hne hxe
            have hne' : ((q.toNat : Int) != 47) = true := by
              rw [bne_iff_ne]
              intro h
              apply hne
              apply UInt8.toNat_inj.1
              simpa using (by omega : q.toNat = 47)
            have hno2 : ∀ c ∈ (L.take (e + 1)).drop (k + 1), c ≠ 47 := by
              rw [take_snoc L e hel, List.drop_append_of_le_length (by rw [List.length_take]; omega)]
              intro c hc
              rcases List.mem_append.1 hc with h | h
              · exact HNO.out c h
              · rw [List.mem_singleton.1 h, ← hq]; exact hne
            have HNO2 := Lib.hid hno2
            clear hno2 hne hq
            go_wp2_with fail
            go_roundw
            case rel => exact ⟨e + 1, by omega, by omega, by go_num, HNO2.out, by first | rfl | trivial⟩
            case measure => simp [intOf]; omega
          · have hcase : e = N ∨ ∃ h : e < L.length, L[e] = 47 := by
              by_cases h : e < L.length
              · exact .inr ⟨h, Classical.byContradiction fun hne => hgo ⟨h, hne⟩⟩
              · exact .inl (by rw [HN.out] at heN ⊢; omega)
            have hPl : (L.drop k).length = N - k := by rw [List.length_drop, ← HN.out]
            have hne : L.drop k ≠ [] := fun h => by rw [h] at hPl; simp at hPl; omega
            have e1 : ((L.drop k).take (e - k - 1 + 1)).drop 1 = (L.take e).drop (k + 1) := by
              rw [show e - k - 1 + 1 = e - k by omega, ← List.drop_take, List.drop_drop]
            have hend : e - k - 1 + 1 = (L.drop k).length ∨ ∃ h : e - k - 1 + 1 < (L.drop k).length, (L.drop k)[e - k - 1 + 1] = 47 := by
              rcases hcase with h | ⟨h, h4⟩
              · left; rw [hPl]; omega
              · right
                refine ⟨by rw [hPl, HN.out]; omega, ?_⟩
                rw [List.getElem_drop, ← h4]
                congr 1
                omega
            obtain ⟨rem', hr, hl'⟩ := HLE.out.go hne (e - k - 1) (by rw [hPl]; omega) (by rw [e1]; exact HNO.out) hend
            rw [e1] at hr
            rw [List.drop_drop, show k + (e - k - 1 + 1) = e by omega] at hl'
            obtain ⟨a, ha⟩ : ∃ a, a = (L.take e).drop (k + 1) := ⟨_, rfl⟩
            rw [← ha] at hr
            have hal : a.length = e - (k + 1) := by rw [ha, List.length_drop, List.length_take, ← HN.out]; omega
            have HL' := Lib.hid hl'
            have HGO2 : Hid (Goes (keysL (segs R)) D (keysL (a :: rem'))) := Lib.hid (by rw [← hr]; exact HGO.out)
            obtain ⟨S, hS⟩ : ∃ S, S = s.extract (k + 1) e := ⟨_, rfl⟩
            have hSd : S.data.toList = a := by rw [hS, Lib.extract_data, ← HL.out, ha, List.drop_take]
            have hsS : ∀ w, (Instr.slice 9 (.string s) (some (.int .i64 ((k : Int) + 1))) (some (.int .i64 (e : Int))) none).run Tryz.prog w = .ok (.string S) w := fun w => by
              rw [run_slice_string w _ s .i64 .i64 _ _ Tryz.underlying9 (by omega) (by omega) (by rw [hLN]; omega), hS]; rfl
            have hSz : S.size = a.length := by rw [size_data, hSd]
            have HSD := Lib.hid hSd
            have haz : a.length ≤ 1099511626776 := by omega
            clear hPl hne e1 hend hl' hr ha hS hSd HNO HLE HGO
            by_cases hp : Lib.hasPrefix a [120, 58] = true
            · have h2l := hasPrefix_len a hp
              have hkey : keyOf a = hexD (a.drop 2) := by unfold keyOf; rw [if_pos hp]
              obtain ⟨S3, hS3⟩ : ∃ S3, S3 = S.extract 0 2 := ⟨_, rfl⟩
              have hs3 : ∀ w, (Instr.slice 9 (.string S) none (some (.int .i64 2)) none).run Tryz.prog w = .ok (.string S3) w := fun w => by
                rw [run_slice_string_h w _ S Tryz.underlying9 .i64 2 (by omega) (by omega), hS3]; rfl
              have hpe : (S3.toList == [120, 58]) = true := by
                rw [not_prefix a S3 h2l (by rw [hS3, Lib.extract_data, HSD.out]; simp), hp]
              obtain ⟨S2, hS2⟩ : ∃ S2, S2 = S.extract 2 S.size := ⟨_, rfl⟩
              have hs2 : ∀ w, (Instr.slice 9 (.string S) (some (.int .i64 2)) none none).run Tryz.prog w = .ok (.string S2) w := fun w => by
                rw [run_slice_string_l w _ S Tryz.underlying9 .i64 _ (by omega) (by omega), hS2]; rfl
              obtain ⟨H, hH⟩ : ∃ H, H = a.drop 2 := ⟨_, rfl⟩
              have hS2d : S2.data.toList = H := by
                rw [hS2, Lib.extract_data, HSD.out, List.take_of_length_le (by rw [hSz, List.length_drop]; exact Nat.le_refl _), hH]
              have hS2z : S2.size = H.length := by rw [size_data, hS2d]
              have hHl : H.length = a.length - 2 := by rw [hH, List.length_drop]
              rw [← hH] at hkey
              have HKEY := Lib.hid hkey
              have HI2 : Hid (∀ (j : Nat) (h : j < H.length) (w : World), (Instr.index 9 (.string S2) (.int .i64 (j : Int))).run Tryz.prog w = .ok (.int .u8 ((H[j].toNat : Nat) : Int)) w) := Lib.hid fun j h w => by
                subst hS2d
                exact idx_data S2 j (by rw [size_data]; exact h) w
              have h2i : (2 : Int) ≤ (a.length : Int) := by omega
              have hHz : H.length ≤ 1099511626776 := by omega
              clear hHl hal hS3 hS2 hH hS2d hkey hp HSD
              by_cases hodd : H.length % 2 = 1
              · have hbad : keysL (segs R) = none := HGO2.out.fail (keysL_bad _ _ (by rw [HKEY.out]; exact hexD_odd _ hodd))
                have HBAD := Lib.hid hbad
                have hod : ((S2.size : Int) % 2) = 1 := by omega
                clear hbad
                rcases hcase with hcase | ⟨hel, he47⟩
                · subst hcase
                  go_wp2_with fail
                  go_ret2
                  rw [HBAD.out]
                  exact ⟨rfl, HKP.out⟩
                · have hlt2 : e < N := by rw [HN.out]; exact hel
                  have hxe := HI.out e hel
                  rw [he47] at hxe
                  replace hxe : ∀ (w : World), (Instr.index 9 (.string s) (.int .i64 (e : Int))).run Tryz.prog w = .ok (.int .u8 47) w := hxe
                  clear he47
                  go_wp2_with fail
                  go_ret2
                  rw [HBAD.out]
                  exact ⟨rfl, HKP.out⟩
              · have hod : ((H.length : Int) % 2 == 1) = false := by rw [beq_eq_false_iff_ne]; omega
                rcases hcase with hcase | ⟨hel, he47⟩
                all_goals first
                  | (have hge : ¬ (e : Int) < (N : Int) := by omega
                     clear hcase)
                  | (have hlt2 : e < N := by rw [HN.out]; exact hel
                     have hxe := HI.out e hel
                     rw [he47] at hxe
                     replace hxe : ∀ (w : World), (Instr.index 9 (.string s) (.int .i64 (e : Int))).run Tryz.prog w = .ok (.int .u8 47) w := hxe
                     clear he47)
                all_goals
                  go_wp2_with fail
                  go_loopw [8, 9] (fun kv iv wx => ∃ (J : Nat) (K : List UInt8), J ≤ H.length ∧ J % 2 = 0 ∧ iv = .int .i64 J ∧ K.length ≤ J ∧ Own wx wo.heap.size 5 kv (K.map u8v) ∧ Goes (hexD H) K (hexD (H.drop J)) ∧ Keep wo wx) (fun _ iv _ => H.length - (intOf iv).toNat)
                  case atStart => exact ⟨0, [], Nat.zero_le _, rfl, rfl, Nat.le_refl _, Own.nil_ _ _ _, by simpa using Goes.start _, Kp.refl _ _⟩
                  case round =>
                    obtain ⟨J, K, hJ, hJ2, rfl, hKJ, hown, hg, hkx⟩ := hrel
                    have HW := Lib.hid hown
                    have HG := Lib.hid hg
                    have HKX := Lib.hid hkx
                    obtain ⟨A1, c1, rfl, f1, f2, f3, f4⟩ := hown.form
                    have hll : (K.map u8v).length = K.length := by simp
                    have HLL := Lib.hid hll
                    rw [hll] at f1 HW ⊢
                    unfold maxLen at f2
                    have hkxs := hkx.size
                    clear hown hg hkx f3 f4 hll
                    by_cases hJl : J < H.length
                    · have hJ1 : J + 1 < H.length := by omega
                      have hxa := HI2.out J hJl
                      have hxb := HI2.out (J + 1) hJ1
                      have hd1 := drop_at H J hJl
                      have hd2 := drop_at H (J + 1) hJ1
                      obtain ⟨p, hp⟩ : ∃ p, p = H[J] := ⟨_, rfl⟩
                      obtain ⟨q, hq⟩ : ∃ q, q = H[J + 1]'(by omega) := ⟨_, rfl⟩
                      rw [← hp] at hxa hd1
                      rw [← hq] at hxb hd2
                      have hdd : H.drop J = p :: q :: H.drop (J + 2) := by rw [hd1, hd2]
                      have HDD := Lib.hid hdd
                      have hpl := p.toNat_lt
                      have hql := q.toNat_lt
                      obtain ⟨A, hA⟩ : ∃ A, A = p.toNat := ⟨_, rfl⟩
                      obtain ⟨B, hB⟩ : ∃ B, B = q.toNat := ⟨_, rfl⟩
                      rw [← hA] at hxa hpl
                      rw [← hB] at hxb hql
                      have HUA := Lib.hid (fun (wx : World) => digit_any A wx hpl)
                      have HUB := Lib.hid (fun (wx : World) => digit_any B wx hql)
                      have hbp := dgN_lt A
                      have hbq := dgN_lt B
                      obtain ⟨da, hda⟩ : ∃ da, da = dgN A := ⟨_, rfl⟩
                      obtain ⟨db, hdb⟩ : ∃ db, db = dgN B := ⟨_, rfl⟩
                      have hdp : dg p = da := by rw [hda, hA]; rfl
                      have hdq : dg q = db := by rw [hdb, hB]; rfl
                      rw [← hda] at HUA hbp
                      rw [← hdb] at HUB hbq
                      have HDP := Lib.hid hdp
                      have HDQ := Lib.hid hdq
                      replace hxb : ∀ (w : World), (Instr.index 9 (.string S2) (.int .i64 ((J : Int) + 1))).run Tryz.prog w = .ok (.int .u8 (B : Int)) w := hxb
                      have hw1 : IntKind.i64.wrap ((J : Int) + 1) = (J : Int) + 1 := wrap64_of _ (by omega) (by omega)
                      clear hd1 hd2 hdd hp hq hA hB hda hdb hdp hdq
                      by_cases hbad : da < 0 ∨ db < 0
                      · have hno : keysL (segs R) = none := HGO2.out.fail (keysL_bad _ _ (by rw [HKEY.out]; exact HG.out.fail (by rw [HDD.out]; exact hexD_bad _ _ _ (by rw [HDP.out, HDQ.out]; exact hbad))))
                        have HNONE := Lib.hid hno
                        clear hno
                        by_cases hn : da < 0
                        · clear hbad
                          go_wp2_with fail
                          go_region_held3 (fun _ => True) (trivial) (first
                            | (go_at_call_of 26 A
                               refine (HUA.out _).mono ?_
                               rintro e w3 ⟨rfl, rfl⟩)
                            | (go_at_call_of 26 B
                               refine (HUB.out _).mono ?_
                               rintro e w3 ⟨rfl, rfl⟩))
                          all_goals
                            go_wp2_with fail
                            go_ret2
                            rw [HNONE.out]
                            exact ⟨rfl, (HKP.out.trans HKX.out).drew⟩
                        · have hn2 : db < 0 := by omega
                          clear hbad
                          go_wp2_with fail
                          go_region_held3 (fun _ => True) (trivial) (first
                            | (go_at_call_of 26 A
                               refine (HUA.out _).mono ?_
                               rintro e w3 ⟨rfl, rfl⟩)
                            | (go_at_call_of 26 B
                               refine (HUB.out _).mono ?_
                               rintro e w3 ⟨rfl, rfl⟩))
                          all_goals
                            go_wp2_with fail
                            go_ret2
                            rw [HNONE.out]
                            exact ⟨rfl, (HKP.out.trans HKX.out).drew⟩
                      · have hn : ¬ da < 0 := by omega
                        have hn2 : ¬ db < 0 := by omega
                        have ht2 := two_toNat p q (by rw [HDP.out]; exact hn) (by rw [HDQ.out]; exact hn2)
                        rw [HDP.out, HDQ.out] at ht2
                        have hv1 : Value.int .u8 ((da * 16 + db) % 256) = u8v (two p q) := by rw [show (da * 16 + db) % 256 = da * 16 + db by omega, ← ht2]
                        have hv2 : Value.int .u8 (da * 16 + db) = u8v (two p q) := by rw [← ht2]
                        have HV1 := Lib.hid hv1
                        have HV2 := Lib.hid hv2
                        have hst : Goes (hexD H) (K ++ [two p q]) (hexD (H.drop (J + 2))) := HG.out.step (by rw [HDD.out]; exact hexD_two _ _ _ (by rw [HDP.out, HDQ.out]; exact hbad))
                        have HST := Lib.hid hst
                        clear hbad ht2 hv1 hv2 hst
                        go_wp2_with fail
                        go_region_held3 (fun _ => True) (trivial) (first
                          | (go_at_call_of 26 A
                             refine (HUA.out _).mono ?_
                             rintro e w3 ⟨rfl, rfl⟩)
                          | (go_at_call_of 26 B
                             refine (HUB.out _).mono ?_
                             rintro e w3 ⟨rfl, rfl⟩))
                        all_goals
                          go_wp2_with (at_builtin
                                       first | rw [HV1.out] | rw [HV2.out]
                                       go_loud (refine wpList_app rfl (.tmp 78) (.tmp 84) 24 rfl appB rfl (HW.out.drew.alloc _) rfl (oneB _ _) (one1 [_]) (fun e => by cases e) (by rw [HLL.out]; omega) (by have := HKX.out.size; simp; omega) ?_)
                                       intro v2 w2 h2 hk2 _
                                       have HO2 := Lib.hid h2
                                       have HK2 := Lib.hid hk2
                                       clear h2 hk2)
                          go_roundw
                          case rel =>
                            refine ⟨J + 2, K ++ [two p q], by omega, by omega, by go_num, by simp; omega, ?_, HST.out, (HKX.out.drew.alloc _).trans' HK2.out (fun i hi h => (HW.out.lt i h.symm).1 |> fun h => by omega)⟩
                            have h6 := HO2.out
                            rw [← List.map_append] at h6
                            exact h6
                          case measure => simp [intOf]; omega
                    · obtain rfl : J = H.length := by omega
                      have hdone : hexD H = some K := HG.out.done (by rw [drop_end H H.length (Nat.le_refl _)]; rfl)
                      have HDONE := Lib.hid hdone
                      clear hdone
                      obtain ⟨vals, ho1, ho2, ho3⟩ := HOU.out.keep HKX.out
                      have HO1 := Lib.hid ho1
                      have HO2 := Lib.hid ho2
                      have HO3 := Lib.hid ho3
                      obtain ⟨A2, c2, rfl, g1, g2, g3, g4⟩ := ho1.form
                      have HL2 := Lib.hid ho2
                      rw [ho2] at g1 HO1 ⊢
                      unfold maxLen at g2
                      have hDl : D.length ≤ 1099511626776 := by omega
                      clear ho1 ho2 ho3 g3 g4
                      go_wp2_with (at_builtin
                                   refine wpList_app (news := [.slice A1 K.length c1]) rfl (.tmp 141) (.tmp 143) 22 rfl appM rfl (HO1.out.alloc _) rfl (Src.one (by simp)) (by intro u hu; simp at hu; subst hu; rfl) (fun e => by cases e) (by rw [HL2.out]; omega) (by have := HKX.out.size; simp; omega) ?_
                                   intro v2 w2 h2 hk2 _
                                   have HV2 := Lib.hid h2
                                   have HK2 := Lib.hid hk2
                                   clear h2 hk2)
                      go_roundw
                      case rel =>
                        refine ⟨e, D ++ [K], rem', heN, rfl, by simp; omega, HL'.out, HGO2.out.step (keysL_cons _ _ _ (by rw [HKEY.out]; exact HDONE.out)), ?_, ((HKP.out.trans HKX.out).alloc _).trans' HK2.out (fun i hi h => (HO1.out.lt i h.symm).1 |> fun h => by omega)⟩
                        exact Outs.snoc (HO1.out.alloc _) HO2.out (fun j hj hj2 => (HO3.out j hj hj2).alloc _) ((HW.out.lower hwr).alloc _) HV2.out HK2.out
                      case measure => simp [intOf]; omega
            · have hp' : Lib.hasPrefix a [120, 58] = false := by simpa using hp
              have hkey : keyOf a = unesc a := by unfold keyOf; rw [if_neg hp]
              have HKEY := Lib.hid hkey
              have HPF := Lib.hid hp'
              have HI2 : Hid (∀ (j : Nat) (h : j < a.length) (w : World), (Instr.index 9 (.string S) (.int .i64 (j : Int))).run Tryz.prog w = .ok (.int .u8 ((a[j].toNat : Nat) : Int)) w) := Lib.hid fun j h w => by
                have h9 := HSD.out
                subst h9
                exact idx_data S j (by rw [size_data]; exact h) w
              clear hkey hp hp' hal
              rcases (Nat.lt_or_ge a.length 2) with h2l | h2l
              all_goals first
                | (have h2i : ¬ (2 : Int) ≤ (a.length : Int) := by omega)
                | (have h2i : (2 : Int) ≤ (a.length : Int) := by omega
                   obtain ⟨S3, hS3⟩ : ∃ S3, S3 = S.extract 0 2 := ⟨_, rfl⟩
                   have hs3 : ∀ w, (Instr.slice 9 (.string S) none (some (.int .i64 2)) none).run Tryz.prog w = .ok (.string S3) w := fun w => by
                     rw [run_slice_string_h w _ S Tryz.underlying9 .i64 2 (by omega) (by omega), hS3]; rfl
                   have hpe : (S3.toList == [120, 58]) = false := by
                     rw [not_prefix a S3 h2l (by rw [hS3, Lib.extract_data, HSD.out]; simp), HPF.out]
                   clear hS3)
              all_goals rcases hcase with hcase | ⟨hel, he47⟩
              all_goals first
                | (have hge : ¬ (e : Int) < (N : Int) := by omega
                   clear hcase)
                | (have hlt2 : e < N := by rw [HN.out]; exact hel
                   have hxe := HI.out e hel
                   rw [he47] at hxe
                   replace hxe : ∀ (w : World), (Instr.index 9 (.string s) (.int .i64 (e : Int))).run Tryz.prog w = .ok (.int .u8 47) w := hxe
                   clear he47)
              all_goals
                go_wp2_with fail
                go_loopw [8, 12] (fun kv iv wx => ∃ (J : Nat) (K : List UInt8), J ≤ a.length ∧ iv = .int .i64 J ∧ K.length ≤ J ∧ Own wx wo.heap.size 5 kv (K.map u8v) ∧ Goes (unesc a) K (unesc (a.drop J)) ∧ Keep wo wx) (fun _ iv _ => a.length - (intOf iv).toNat)
                case atStart => exact ⟨0, [], Nat.zero_le _, rfl, Nat.le_refl _, Own.nil_ _ _ _, by simpa using Goes.start _, Kp.refl _ _⟩
                case round =>
                  obtain ⟨J, K, hJ, rfl, hKJ, hown, hg, hkx⟩ := hrel
                  have HW := Lib.hid hown
                  have HG := Lib.hid hg
                  have HKX := Lib.hid hkx
                  obtain ⟨A1, c1, rfl, f1, f2, f3, f4⟩ := hown.form
                  have hll : (K.map u8v).length = K.length := by simp
                  have HLL := Lib.hid hll
                  rw [hll] at f1 HW ⊢
                  unfold maxLen at f2
                  have hkxs := hkx.size
                  clear hown hg hkx f3 f4 hll
                  by_cases hJl : J < a.length
                  · have hx0 := HI2.out J hJl
                    have hd0 := drop_at a J hJl
                    obtain ⟨ch, hch⟩ : ∃ ch, ch = a[J] := ⟨_, rfl⟩
                    rw [← hch] at hx0 hd0
                    have HD0 := Lib.hid hd0
                    clear hd0 hch
                    by_cases h37 : ch = 37
                    · subst h37
                      replace hx0 : ∀ (w : World), (Instr.index 9 (.string S) (.int .i64 (J : Int))).run Tryz.prog w = .ok (.int .u8 37) w := hx0
                      rcases Nat.lt_or_ge (J + 2) a.length with hJ2 | hJ2
                      all_goals try (exfalso; omega)
                      all_goals first
                        | (have hj2 : (a.length : Int) ≤ (J : Int) + 2 := by omega
                           have hno : keysL (segs R) = none := HGO2.out.fail (keysL_bad _ _ (by rw [HKEY.out]; exact HG.out.fail (by rw [HD0.out]; exact unesc_short _ (by rw [List.length_drop]; omega))))
                           have HNONE := Lib.hid hno
                           clear hno
                           go_wp2_with fail
                           go_ret2
                           rw [HNONE.out]
                           exact ⟨rfl, HKP.out.trans HKX.out⟩)
                        | (have hj2 : ¬ (a.length : Int) ≤ (J : Int) + 2 := by omega
                           have hxa := HI2.out (J + 1) (by omega)
                           have hxb := HI2.out (J + 2) hJ2
                           have hd1 := drop_at a (J + 1) (by omega)
                           have hd2 := drop_at a (J + 2) hJ2
                           obtain ⟨p, hp⟩ : ∃ p, p = a[J + 1]'(by omega) := ⟨_, rfl⟩
                           obtain ⟨q, hq⟩ : ∃ q, q = a[J + 2] := ⟨_, rfl⟩
                           rw [← hp] at hxa hd1
                           rw [← hq] at hxb hd2
                           have hdd : a.drop J = 37 :: p :: q :: a.drop (J + 3) := by rw [HD0.out, hd1, hd2]
                           have HDD := Lib.hid hdd
                           have hpl := p.toNat_lt
                           have hql := q.toNat_lt
                           obtain ⟨A, hA⟩ : ∃ A, A = p.toNat := ⟨_, rfl⟩
                           obtain ⟨B, hB⟩ : ∃ B, B = q.toNat := ⟨_, rfl⟩
                           rw [← hA] at hxa hpl
                           rw [← hB] at hxb hql
                           have HUA := Lib.hid (fun (wx : World) => digit_any A wx hpl)
                           have HUB := Lib.hid (fun (wx : World) => digit_any B wx hql)
                           have hbp := dgN_lt A
                           have hbq := dgN_lt B
                           obtain ⟨da, hda⟩ : ∃ da, da = dgN A := ⟨_, rfl⟩
                           obtain ⟨db, hdb⟩ : ∃ db, db = dgN B := ⟨_, rfl⟩
                           have hdp : dg p = da := by rw [hda, hA]; rfl
                           have hdq : dg q = db := by rw [hdb, hB]; rfl
                           rw [← hda] at HUA hbp
                           rw [← hdb] at HUB hbq
                           have HDP := Lib.hid hdp
                           have HDQ := Lib.hid hdq
                           replace hxa : ∀ (w : World), (Instr.index 9 (.string S) (.int .i64 ((J : Int) + 1))).run Tryz.prog w = .ok (.int .u8 (A : Int)) w := hxa
                           replace hxb : ∀ (w : World), (Instr.index 9 (.string S) (.int .i64 ((J : Int) + 2))).run Tryz.prog w = .ok (.int .u8 (B : Int)) w := hxb
                           clear hd1 hd2 hdd hp hq hA hB hda hdb hdp hdq
                           by_cases hbad : da < 0 ∨ db < 0
                           · have hno : keysL (segs R) = none := HGO2.out.fail (keysL_bad _ _ (by rw [HKEY.out]; exact HG.out.fail (by rw [HDD.out]; exact unesc_bad _ _ _ (by rw [HDP.out, HDQ.out]; exact hbad))))
                             have HNONE := Lib.hid hno
                             clear hno
                             by_cases hn : da < 0
                             · clear hbad
                               go_wp2_with (first
                                 | (go_at_call_of 26 A
                                    refine (HUA.out _).mono ?_
                                    rintro e w3 ⟨rfl, rfl⟩)
                                 | (go_at_call_of 26 B
                                    refine (HUB.out _).mono ?_
                                    rintro e w3 ⟨rfl, rfl⟩))
                               go_ret2
                               rw [HNONE.out]
                               exact ⟨rfl, HKP.out.trans HKX.out⟩
                             · have hn2 : db < 0 := by omega
                               clear hbad
                               go_wp2_with (first
                                 | (go_at_call_of 26 A
                                    refine (HUA.out _).mono ?_
                                    rintro e w3 ⟨rfl, rfl⟩)
                                 | (go_at_call_of 26 B
                                    refine (HUB.out _).mono ?_
                                    rintro e w3 ⟨rfl, rfl⟩))
                               go_ret2
                               rw [HNONE.out]
                               exact ⟨rfl, HKP.out.trans HKX.out⟩
                           · have hn : ¬ da < 0 := by omega
                             have hn2 : ¬ db < 0 := by omega
                             have ht2 := two_toNat p q (by rw [HDP.out]; exact hn) (by rw [HDQ.out]; exact hn2)
                             rw [HDP.out, HDQ.out] at ht2
                             have hw1 : IntKind.i64.wrap ((J : Int) + 1) = (J : Int) + 1 := wrap64_of _ (by omega) (by omega)
                             have hw2 : IntKind.i64.wrap ((J : Int) + 2) = (J : Int) + 2 := wrap64_of _ (by omega) (by omega)
                             have hw3 : IntKind.i64.wrap (da * 16) = da * 16 := wrap64_of _ (by omega) (by omega)
                             have hw4 : IntKind.i64.wrap (da * 16 + db) = da * 16 + db := wrap64_of _ (by omega) (by omega)
                             have hw5 : IntKind.u8.wrap (da * 16 + db) = ((two p q).toNat : Int) := by
                               rw [ht2]; simp [IntKind.wrap, IntKind.bits, IntKind.signed]; omega
                             have hst : Goes (unesc a) (K ++ [two p q]) (unesc (a.drop (J + 3))) := HG.out.step (by rw [HDD.out]; exact unesc_two _ _ _ (by rw [HDP.out, HDQ.out]; exact hbad))
                             have HST := Lib.hid hst
                             clear hbad ht2 hst
                             go_wp2_with (first
                               | (go_at_call_of 26 A
                                  refine (HUA.out _).mono ?_
                                  rintro e w3 ⟨rfl, rfl⟩)
                               | (go_at_call_of 26 B
                                  refine (HUB.out _).mono ?_
                                  rintro e w3 ⟨rfl, rfl⟩))
                             go_region_held3 (fun _ => True) (trivial) (first
                               | (go_at_call_of 26 A
                                  refine (HUA.out _).mono ?_
                                  rintro e w3 ⟨rfl, rfl⟩)
                               | (go_at_call_of 26 B
                                  refine (HUB.out _).mono ?_
                                  rintro e w3 ⟨rfl, rfl⟩)
                               | (refine step_app rfl (.tmp 123) (.tmp 137) 24 rfl appB rfl (HW.out.drew.alloc _) rfl (oneB _ _) (one1 [_]) (fun e => by cases e) (by rw [HLL.out]; omega) (by have := HKX.out.size; simp; omega) ?_
                                  intro v2 w2 h2 hk2 _
                                  have HO2 := Lib.hid h2
                                  have HK2 := Lib.hid hk2
                                  clear h2 hk2))
                             all_goals
                               go_wp2_with fail
                               go_roundw
                               case rel =>
                                 refine ⟨J + 3, K ++ [two p q], by omega, by go_num, by simp; omega, ?_, HST.out, (HKX.out.drew.alloc _).trans' HK2.out (fun i hi h => (HW.out.lt i h.symm).1 |> fun h => by omega)⟩
                                 have h6 := HO2.out
                                 rw [← List.map_append] at h6
                                 exact h6
                               case measure => simp [intOf]; omega)
                    · have hst : Goes (unesc a) (K ++ [ch]) (unesc (a.drop (J + 1))) := HG.out.step (by rw [HD0.out]; exact unesc_plain _ _ h37)
                      have HST := Lib.hid hst
                      have h37' : ((ch.toNat : Int) != 37) = true := by
                        rw [bne_iff_ne]
                        intro h
                        apply h37
                        apply UInt8.toNat_inj.1
                        simpa using (by omega : ch.toNat = 37)
                      clear hst h37
                      go_wp2_with (at_builtin
                                   refine wpList_app rfl (.tmp 96) (.tmp 100) 24 rfl appB rfl (HW.out.alloc _) rfl (oneB _ _) (one1 [_]) (fun e => by cases e) (by rw [HLL.out]; omega) (by have := HKX.out.size; simp; omega) ?_
                                   intro v2 w2 h2 hk2 _
                                   have HO2 := Lib.hid h2
                                   have HK2 := Lib.hid hk2
                                   clear h2 hk2)
                      go_roundw
                      case rel =>
                        refine ⟨J + 1, K ++ [ch], by omega, by go_num, by simp; omega, ?_, HST.out, (HKX.out.alloc _).trans' HK2.out (fun i hi h => (HW.out.lt i h.symm).1 |> fun h => by omega)⟩
                        have h6 := HO2.out
                        rw [← List.map_append] at h6
                        exact h6
                      case measure => simp [intOf]; omega
                  · obtain rfl : J = a.length := by omega
                    have hdone : unesc a = some K := HG.out.done (by rw [drop_end a a.length (Nat.le_refl _)]; exact unesc_nil)
                    have HDONE := Lib.hid hdone
                    clear hdone
                    obtain ⟨vals, ho1, ho2, ho3⟩ := HOU.out.keep HKX.out
                    have HO1 := Lib.hid ho1
                    have HO2 := Lib.hid ho2
                    have HO3 := Lib.hid ho3
                    obtain ⟨A2, c2, rfl, g1, g2, g3, g4⟩ := ho1.form
                    have HL2 := Lib.hid ho2
                    rw [ho2] at g1 HO1 ⊢
                    unfold maxLen at g2
                    have hDl : D.length ≤ 1099511626776 := by omega
                    clear ho1 ho2 ho3 g3 g4
                    go_wp2_with (at_builtin
                                 refine wpList_app (news := [.slice A1 K.length c1]) rfl (.tmp 141) (.tmp 143) 22 rfl appM rfl (HO1.out.alloc _) rfl (Src.one (by simp)) (by intro u hu; simp at hu; subst hu; rfl) (fun e => by cases e) (by rw [HL2.out]; omega) (by have := HKX.out.size; simp; omega) ?_
                                 intro v2 w2 h2 hk2 _
                                 have HV2 := Lib.hid h2
                                 have HK2 := Lib.hid hk2
                                 clear h2 hk2)
                    go_roundw
                    case rel =>
                      refine ⟨e, D ++ [K], rem', heN, rfl, by simp; omega, HL'.out, HGO2.out.step (keysL_cons _ _ _ (by rw [HKEY.out]; exact HDONE.out)), ?_, ((HKP.out.trans HKX.out).alloc _).trans' HK2.out (fun i hi h => (HO1.out.lt i h.symm).1 |> fun h => by omega)⟩
                      exact Outs.snoc (HO1.out.alloc _) HO2.out (fun j hj hj2 => (HO3.out j hj hj2).alloc _) ((HW.out.lower hwr).alloc _) HV2.out HK2.out
                    case measure => simp [intOf]; omega
      · obtain rfl : k = N := by omega
        have hrem : rem = [] := by
          have h1 := HLE.out
          rw [drop_end L k (by rw [← HN.out]; exact Nat.le_refl _)] at h1
          rcases h1 with ⟨_, h⟩ | ⟨T, h, _⟩
          · exact h
          · cases h
        have hdone : keysL (segs R) = some D := HGO.out.done (by rw [hrem]; rfl)
        have HDONE := Lib.hid hdone
        have HM := Lib.hid (HOU.out.mat)
        clear hdone hrem
        obtain ⟨A, cc, rfl, -, -, -, -⟩ := HM.out
        go_wp2_with fail
        go_ret2
        rw [HDONE.out]
        exact ⟨⟨_, rfl, HM.out⟩, HKP.out⟩
  · have h47' : ((c.toNat : Int) != 47) = true := by
      rw [bne_iff_ne]
      intro h
      apply h47
      apply UInt8.toNat_inj.1
      simpa using (by omega : c.toNat = 47)
    have hkeys : keysOf L = none := by rw [hcR]; simp [keysOf, h47]
    rw [hkeys]
    clear h47 hkeys hcR HI
    go_enter Tryz.func11, Tryz.ntmps11
    go_wp2_with fail
    go_ret2
    exact ⟨rfl, Kp.refl _ _⟩
end Go.Proofs.YtfodkjpjejoemaaGreatDoor
