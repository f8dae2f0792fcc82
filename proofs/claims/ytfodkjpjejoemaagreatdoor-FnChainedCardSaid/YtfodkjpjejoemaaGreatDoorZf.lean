
/-
  Roots of trees: the specification's split, leaf, inner node.
  Conditions: the arguments read as bytes.
-/
import Derived.Test.YtfodkjpjejoemaaGreatDoorSha2
import Derived.Test.YtfodkjpjejoemaaGreatDoorZe
import Derived.Test.YtfodkjpjejoemaaGreatDoorZa
import Derived.Deep.RegionWith
import Derived.Deep.RegionHeld3
import Derived.Deep.DrawnRows
namespace Go.Proofs.YtfodkjpjejoemaaGreatDoor
open Go Go.RowKit
attribute [local go_sem ↓] Go.wp_at_zero Go.wp_at_succ

set_option maxHeartbeats 1000000 in
theorem specSplit_any (n : Nat) (w : World) (h2 : 2 ≤ n) (h : n ≤ 9223372036854775807) :
    Calls Tryz.prog 23 #[.int .i64 n] w fun e w' => e = .returned (.int .i64 (splt n)) ∧ w = w' := by
  go_enter Tryz.func23, Tryz.ntmps23
  go_wp2_with fail
  go_loopw [3] (fun k wr => ∃ j K : Nat, K = 2 ^ j ∧ K < n ∧ k = .int .i64 K ∧ w = wr) (fun k _ => n - (intOf k).toNat)
  case atStart => exact ⟨0, 1, rfl, by omega, rfl, rfl⟩
  case round =>
    obtain ⟨j, K, hK, hlt, rfl, rfl⟩ := hrel
    have hp : 0 < K := by rw [hK]; exact Nat.pow_pos (by omega)
    have HK := Lib.hid hK
    clear hK
    by_cases hc : K < n - K
    · have hci : (K : Int) < (n : Int) - (K : Int) := by omega
      go_wp2_with fail
      go_roundw
      case rel => exact ⟨j + 1, 2 * K, by rw [HK.out, Nat.pow_succ]; omega, by omega, by go_num, by first | rfl | trivial⟩
      case measure => simp [intOf]; omega
    · have hci : ¬ (K : Int) < (n : Int) - (K : Int) := by omega
      have hs := splt_of n j (by rw [← HK.out]; exact hlt) (by rw [← HK.out]; omega)
      rw [← HK.out] at hs
      have HS := Lib.hid hs
      clear hs
      go_wp2_with fail
      go_ret
      exact ⟨by rw [HS.out]; rfl, rfl⟩

def leafS (b : List UInt8) : List UInt8 := sha (0 :: b)
def innerS (l r : List UInt8) : List UInt8 := sha (1 :: (l ++ r))

set_option maxHeartbeats 1000000 in
theorem leafSum_big (v : Value) (b : List UInt8) (w : World) (hv : Byts w v b) (hb : b.length ≤ 4294967295) :
    Calls Tryz.prog 15 #[v] w fun e w' => ∃ v', e = .returned v' ∧ Byts w' v' (leafS b) ∧ Keep w w' := by
  have HV := Lib.hid hv
  obtain ⟨A, c, rfl, h1, h2, h3, h4⟩ := hv
  have H3 := Lib.hid h3
  unfold maxLen at h2
  clear h3 h4
  go_enter Tryz.func15, Tryz.ntmps15
  go_wp2_with (first
    | (at_builtin
       go_loud (refine wpList_app rfl (.tmp 3) (.tmp 4) 24 rfl appByte' rfl (Own.made w w.heap.size 5 ([(0 : UInt8)].map u8v) (Nat.le_refl _) (by simp [maxLen])) rfl (Src.of_slc u8v (fun _ _ h => h) (HV.out.keep ((Kp.refl _ _).alloc _))) (by intro u hu; obtain ⟨x, _, rfl⟩ := List.mem_map.1 hu; rfl) (fun e => by have h5 := H3.out e; omega) (by simp; omega) (by simp) ?_)
       intro v2 w2 ho2 hk2 _
       have HO2 : Hid (Own w2 w.heap.size 5 v2 ((0 :: b).map u8v)) := Lib.hid ho2
       have HK2 : Hid (Keep w w2) := Lib.hid (((Kp.refl (fun _ => False) w).alloc _).trans' hk2 (fun i hi e => by replace e : some i = some w.heap.size := e; simp at e; omega))
       clear ho2 hk2)
    | (go_at_call 17
       refine (sSum_any _ (0 :: b) _ (HO2.out.slc_map (R := U8) u8v (fun _ _ => rfl)) (by rw [List.length_cons]; omega)).mono ?_
       rintro e w3 ⟨v3, rfl, h3, hk3⟩
       have HB3 := Lib.hid h3
       have HK3 := Lib.hid hk3
       clear h3 hk3))
  go_ret
  exact ⟨v3, rfl, HB3.out, HK2.out.trans HK3.out⟩

theorem leafSum_any (v : Value) (b : List UInt8) (w : World) (hv : Byts w v b) (hb : b.length ≤ 1073741824) :
    Calls Tryz.prog 15 #[v] w fun e w' => ∃ v', e = .returned v' ∧ Byts w' v' (leafS b) ∧ Keep w w' := leafSum_big v b w hv (by omega)

set_option maxHeartbeats 1000000 in
theorem innerSum_any (v1 v2 : Value) (l r : List UInt8) (w : World) (hv1 : Byts w v1 l) (hv2 : Byts w v2 r) (hl : l.length ≤ 1073741824) (hr : r.length ≤ 1073741824) :
    Calls Tryz.prog 24 #[v1, v2] w fun e w' => ∃ v', e = .returned v' ∧ Byts w' v' (innerS l r) ∧ Keep w w' := by
  have HV1 := Lib.hid hv1
  have HV2 := Lib.hid hv2
  obtain ⟨A, c, rfl, h1, h2, h3, h4⟩ := hv1
  obtain ⟨B, d, rfl, g1, g2, g3, g4⟩ := hv2
  have H3 := Lib.hid h3
  have G3 := Lib.hid g3
  unfold maxLen at h2 g2
  clear h3 h4 g3 g4
  go_enter Tryz.func24, Tryz.ntmps24
  go_wp2_with (first
    | (at_builtin
       refine wpList_app rfl (.tmp 5) (.tmp 6) 24 rfl appByte' rfl (Own.made w w.heap.size 5 ([(1 : UInt8)].map u8v) (Nat.le_refl _) (by simp [maxLen])) rfl (Src.of_slc u8v (fun _ _ h => h) (HV1.out.keep ((Kp.refl _ _).alloc _))) (by intro u hu; obtain ⟨x, _, rfl⟩ := List.mem_map.1 hu; rfl) (fun e => by have h5 := H3.out e; omega) (by simp; omega) (by simp) ?_
       intro v3 w3 ho3 hk3 _
       have HO3 : Hid (Own w3 w.heap.size 5 v3 ((1 :: l).map u8v)) := Lib.hid ho3
       have HK3 : Hid (Keep w w3) := Lib.hid (((Kp.refl (fun _ => False) w).alloc _).trans' hk3 (fun i hi e => by replace e : some i = some w.heap.size := e; simp at e; omega))
       clear ho3 hk3)
    | (at_builtin
       refine wpList_app rfl (.tmp 7) (.tmp 8) 24 rfl appByte' rfl HO3.out rfl (Src.of_slc u8v (fun _ _ h => h) (HV2.out.keep HK3.out)) (by intro u hu; obtain ⟨x, _, rfl⟩ := List.mem_map.1 hu; rfl) (fun e => by have h5 := G3.out e; omega) (by simp; omega) HK3.out.size ?_
       intro v4 w4 ho4 hk4 _
       have HO4 : Hid (Own w4 w.heap.size 5 v4 ((1 :: (l ++ r)).map u8v)) := Lib.hid (by rw [show (1 :: (l ++ r)) = (1 :: l) ++ r from rfl, List.map_append]; exact ho4)
       have HK4 : Hid (Keep w w4) := Lib.hid (HK3.out.trans' hk4 (fun i hi e => by have h9 := (HO3.out.lt _ e.symm).1; omega))
       clear ho4 hk4)
    | (go_at_call 17
       refine (sSum_any _ (1 :: (l ++ r)) _ (HO4.out.slc_map (R := U8) u8v (fun _ _ => rfl)) (by rw [List.length_cons, List.length_append]; omega)).mono ?_
       rintro e w5 ⟨v5, rfl, h5, hk5⟩
       have HB5 := Lib.hid h5
       have HK5 := Lib.hid hk5
       clear h5 hk5))
  go_ret
  exact ⟨v5, rfl, HB5.out, HK4.out.trans HK5.out⟩
end Go.Proofs.YtfodkjpjejoemaaGreatDoor

/-
  Roots of trees: the specification's root.
  Conditions: none (laws).
-/
namespace Go.Proofs.YtfodkjpjejoemaaGreatDoor
open Go Go.RowKit

/-- the root of a tree over a list of leaves -/
def rootS (L : List (List UInt8)) : List UInt8 := tree innerS (sha []) (L.map leafS)
theorem rootS_nil : rootS [] = sha [] := rfl
theorem rootS_one (b : List UInt8) : rootS [b] = leafS b := rfl
theorem rootS_more (L : List (List UInt8)) (h : 2 ≤ L.length) : rootS L = innerS (rootS (L.take (splt L.length))) (rootS (L.drop (splt L.length))) := by
  unfold rootS
  rw [tree_more innerS (sha []) (L.map leafS) (by simpa using h), List.length_map, List.map_take, List.map_drop]
theorem rootS_length (L : List (List UInt8)) : (rootS L).length = 32 := by
  by_cases h : 2 ≤ L.length
  · rw [rootS_more L h]; exact sha_length _
  · match L, h with
    | [], _ => exact sha_length _
    | [b], _ => exact sha_length _
    | a :: b :: t, h => simp at h
end Go.Proofs.YtfodkjpjejoemaaGreatDoor

/-
  Roots of trees: spec.Root walked.
  Conditions: the argument reads as a list of lists of bytes.
-/
namespace Go.Proofs.YtfodkjpjejoemaaGreatDoor
open Go Go.RowKit
attribute [local go_sem ↓] Go.wp_at_zero Go.wp_at_succ

set_option maxRecDepth 100000 in
set_option maxHeartbeats 2000000 in
theorem specRoot_n : ∀ (n : Nat) (L : List (List UInt8)) (v : Value) (w : World), L.length ≤ n → Mat w v L → L.length ≤ 1073741824 → (∀ b ∈ L, b.length ≤ 1073741824) →
    Calls Tryz.prog 9 #[v] w fun e w' => ∃ v', e = .returned v' ∧ Byts w' v' (rootS L) ∧ Keep w w' := by
  intro n
  induction n using Nat.strongRecOn with
  | _ n ih =>
  intro L v w hn hv hL hb
  have IH := Lib.hid ih
  have HV := Lib.hid hv
  have HBD := Lib.hid hb
  obtain ⟨A, c, rfl, h1, h2, h3, h4⟩ := hv
  unfold maxLen at h2
  clear ih h3 hb
  by_cases h0 : L.length = 0
  · have hL0 : L = [] := List.eq_nil_of_length_eq_zero h0
    subst hL0
    clear h4
    go_enter Tryz.func9, Tryz.ntmps9
    go_wp2_with (go_at_call 17
                 refine (sSum_any _ [] _ Slc.nil_ (by simp)).mono ?_
                 rintro e w1 ⟨v1, rfl, hb1, hk1⟩
                 have HB1 := Lib.hid hb1
                 have HK1 := Lib.hid hk1
                 clear hb1 hk1)
    go_ret
    exact ⟨v1, rfl, HB1.out, HK1.out⟩
  · by_cases h11 : L.length = 1
    · obtain ⟨b, hLb⟩ : ∃ b, L = [b] := List.length_eq_one_iff.1 h11
      subst hLb
      obtain ⟨g, off, rfl, hc⟩ := h4 (by simp)
      obtain ⟨u, hu, hur⟩ := hc 0 (by simp)
      rw [Nat.add_zero] at hu
      have HU := Lib.hid (show Byts w u b from hur)
      have hbb := HBD.out b (by simp)
      clear hc hur h4
      go_enter Tryz.func9, Tryz.ntmps9
      go_wp2_with (go_at_call 15
                   refine (leafSum_any _ b _ HU.out hbb).mono ?_
                   rintro e w1 ⟨v1, rfl, hb1, hk1⟩
                   have HB1 := Lib.hid hb1
                   have HK1 := Lib.hid hk1
                   clear hb1 hk1)
      go_ret
      exact ⟨v1, rfl, HB1.out, HK1.out⟩
    · have hm : 2 ≤ L.length := by omega
      have hs := splt_lt L.length hm
      have hroot := rootS_more L hm
      obtain ⟨K, hK⟩ : ∃ K, K = splt L.length := ⟨_, rfl⟩
      obtain ⟨N, hN⟩ : ∃ N, N = L.length := ⟨_, rfl⟩
      rw [← hK] at hs hroot
      obtain ⟨A1, c1, hs1, hm1⟩ := slc_to (P := Tryz.prog) Tryz.underlying22 szM HV.out K (by omega)
      obtain ⟨A2, c2, hs2, hm2⟩ := slc_from (P := Tryz.prog) Tryz.underlying22 szM HV.out K (by omega)
      have HM1 := Lib.hid hm1
      have HM2 := Lib.hid hm2
      have HR := Lib.hid hroot
      obtain ⟨M, hM⟩ : ∃ M, M = L.length - K := ⟨_, rfl⟩
      have hl1 : (L.take K).length = K := by rw [List.length_take]; omega
      have hl2 : (L.drop K).length = M := by rw [List.length_drop]; omega
      have HL1 := Lib.hid hl1
      have HL2 := Lib.hid hl2
      have HN := Lib.hid hN
      have HKS := Lib.hid hK
      rw [← hM] at hs2 HM2
      rw [← hN] at hs1 hs2 h1 hs hm hn h0 h11 hM hL ⊢
      have hK1 : (N : Int) ≠ 0 := by omega
      have hK2 : (N : Int) ≠ 1 := by omega
      have e0 : ((N : Int) == 0) = false := by rw [beq_eq_false_iff_ne]; omega
      have e1 : ((N : Int) == 1) = false := by rw [beq_eq_false_iff_ne]; omega
      have hs3 := hs.1
      have hs4 := hs.2
      have HT := Lib.hid (fun b (hb : b ∈ L.take K) => HBD.out b (List.mem_of_mem_take hb))
      have HD := Lib.hid (fun b (hb : b ∈ L.drop K) => HBD.out b (List.mem_of_mem_drop hb))
      have C1 : Hid (∀ wx, Keep w wx → Calls Tryz.prog 9 #[.slice A1 K c1] wx fun e w' => ∃ v', e = .returned v' ∧ Byts w' v' (rootS (L.take K)) ∧ Keep wx w') :=
        Lib.hid fun wx kx => IH.out K (by omega) (L.take K) _ wx (by rw [HL1.out]; exact Nat.le_refl _) (HM1.out _ (Mat.keep HV.out kx)) (by rw [HL1.out]; omega) HT.out
      have C2 : Hid (∀ wx, Keep w wx → Calls Tryz.prog 9 #[.slice A2 M c2] wx fun e w' => ∃ v', e = .returned v' ∧ Byts w' v' (rootS (L.drop K)) ∧ Keep wx w') :=
        Lib.hid fun wx kx => IH.out M (by omega) (L.drop K) _ wx (by rw [HL2.out]; exact Nat.le_refl _) (HM2.out _ (Mat.keep HV.out kx)) (by rw [HL2.out]; omega) HD.out
      clear IH HM1 HM2 HT HD HBD
      clear hl1 hl2 hN hK hm1 hm2 hroot h4 hs hM
      go_enter Tryz.func9, Tryz.ntmps9
      go_wp2_with (go_at_call 23
                   refine (specSplit_any N _ hm (by omega)).mono ?_
                   rintro e w' ⟨rfl, rfl⟩
                   rw [show splt N = K by rw [HKS.out, HN.out]])
      have hz0 : Keep w w.drew := (Kp.refl _ _).drew
      have HRL1 := Lib.hid (rootS_length (L.take K))
      have HRL2 := Lib.hid (rootS_length (L.drop K))
      have HZ0 := Lib.hid hz0
      clear hz0 hK1 hK2 e0 e1 h11 h0 hn
      go_region_with (first
        | (go_at_call_of 9 A1
           first
           | (have hz := HZ4.out
              refine (C1.out _ ?_).mono ?_
              exact hz
              rintro e w3 ⟨v3, rfl, hb3, hk3⟩
              have HZ5 := Lib.hid (hz.trans hk3)
              have HX := Lib.hid hb3
              have HY := Lib.hid (Byts.keep HB4.out hk3)
              clear hb3 hk3 hz)
           | (refine (C1.out _ ?_).mono ?_
              exact HZ0.out
              rintro e w3 ⟨v3, rfl, hb3, hk3⟩
              have HB3 := Lib.hid hb3
              have HZ3 := Lib.hid (HZ0.out.trans hk3)
              clear hb3 hk3))
        | (go_at_call_of 9 A2
           first
           | (have hz := HZ3.out
              refine (C2.out _ ?_).mono ?_
              exact hz
              rintro e w4 ⟨v4, rfl, hb4, hk4⟩
              have HZ5 := Lib.hid (hz.trans hk4)
              have HX := Lib.hid (Byts.keep HB3.out hk4)
              have HY := Lib.hid hb4
              clear hb4 hk4 hz)
           | (refine (C2.out _ ?_).mono ?_
              exact HZ0.out
              rintro e w4 ⟨v4, rfl, hb4, hk4⟩
              have HB4 := Lib.hid hb4
              have HZ4 := Lib.hid (HZ0.out.trans hk4)
              clear hb4 hk4))
        | (go_at_call 24
           refine (innerSum_any v3 v4 (rootS (L.take K)) (rootS (L.drop K)) _ HX.out HY.out (by rw [HRL1.out]; omega) (by rw [HRL2.out]; omega)).mono ?_
           rintro e w6 ⟨v6, rfl, hb6, hk6⟩
           have HB6 := Lib.hid hb6
           have HZ6 := Lib.hid (HZ5.out.trans hk6)
           clear hb6 hk6))
      all_goals
        go_wp2_with fail
        go_ret
        exact ⟨v6, rfl, by rw [HR.out]; exact HB6.out, HZ6.out⟩
end Go.Proofs.YtfodkjpjejoemaaGreatDoor
