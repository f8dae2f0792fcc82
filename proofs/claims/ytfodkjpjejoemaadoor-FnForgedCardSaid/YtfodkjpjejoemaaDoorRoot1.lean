/-
  Roots of trees: the specification's split, leaf, inner node.
  Conditions: the arguments read as bytes.
-/
import Derived.Test.YtfodkjpjejoemaaDoorSha2
import Derived.Test.YtfodkjpjejoemaaDoorSha8
import Derived.Test.YtfodkjpjejoemaaDoorTree
import Derived.Test.YtfodkjpjejoemaaDoorApps
namespace Go.Proofs.YtfodkjpjejoemaaDoor
open Go Go.RowKit
attribute [local go_sem ↓] Go.wp_at_zero Go.wp_at_succ

set_option maxHeartbeats 1000000 in
theorem specSplit_any (n : Nat) (w : World) (h2 : 2 ≤ n) (h : n ≤ 9223372036854775807) :
    Calls Tryd.prog 31 #[.int .i64 n] w fun e w' => e = .returned (.int .i64 (splt n)) ∧ w = w' := by
  go_enter Tryd.func31, Tryd.ntmps31
  go_wp2_with fail
  go_loopw [3] (fun k wr => ∃ j K : Nat, K = 2 ^ j ∧ K < n ∧ k = .int .i64 K ∧ w = wr) (fun k _ => n - (intOf k).toNat)
  case atStart => exact ⟨0, 1, rfl, by omega, rfl, rfl⟩
  case round =>
    obtain ⟨j, K, hK, hlt, rfl, rfl⟩ := hrel
    have hp : 0 < K := by rw [hK]; exact Nat.pow_pos (by omega)
    have HK := Lib.hid hK
    clear hK
    by_cases hc : K < n - K
    · have hci : (K : Int) < (n : Int) - (K : Int) := by omega
      go_wp2_with fail
      go_roundw
      case rel => exact ⟨j + 1, 2 * K, by rw [HK.out, Nat.pow_succ]; omega, by omega, by go_num, by first | rfl | trivial⟩
      case measure => simp [intOf]; omega
    · have hci : ¬ (K : Int) < (n : Int) - (K : Int) := by omega
      have hs := splt_of n j (by rw [← HK.out]; exact hlt) (by rw [← HK.out]; omega)
      rw [← HK.out] at hs
      have HS := Lib.hid hs
      clear hs
      go_wp2_with fail
      go_ret
      exact ⟨by rw [HS.out]; rfl, rfl⟩

def leafS (b : List UInt8) : List UInt8 := sha (0 :: b)
def innerS (l r : List UInt8) : List UInt8 := sha (1 :: (l ++ r))

set_option maxHeartbeats 1000000 in
theorem leafSum_big (v : Value) (b : List UInt8) (w : World) (hv : Byts w v b) (hb : b.length ≤ 4294967295) :
    Calls Tryd.prog 35 #[v] w fun e w' => ∃ v', e = .returned v' ∧ Byts w' v' (leafS b) ∧ Keep w w' := by
  have HV := Lib.hid hv
  obtain ⟨A, c, rfl, h1, h2, h3, h4⟩ := hv
  have H3 := Lib.hid h3
  unfold maxLen at h2
  clear h3 h4
  go_enter Tryd.func35, Tryd.ntmps35
  go_wp2_with (first
    | (at_builtin
       go_loud (refine wpList_app rfl (.tmp 3) (.tmp 4) 22 rfl appByte' rfl (Own.made w w.heap.size 5 ([(0 : UInt8)].map u8v) (Nat.le_refl _) (by simp [maxLen])) rfl (Src.of_slc u8v (fun _ _ h => h) (HV.out.keep ((Kp.refl _ _).alloc _))) (by intro u hu; obtain ⟨x, _, rfl⟩ := List.mem_map.1 hu; rfl) (fun e => by have h5 := H3.out e; omega) (by simp; omega) (by simp) ?_)
       intro v2 w2 ho2 hk2 _
       have HO2 : Hid (Own w2 w.heap.size 5 v2 ((0 :: b).map u8v)) := Lib.hid ho2
       have HK2 : Hid (Keep w w2) := Lib.hid (((Kp.refl (fun _ => False) w).alloc _).trans' hk2 (fun i hi e => by replace e : some i = some w.heap.size := e; simp at e; omega))
       clear ho2 hk2)
    | (go_at_call 17
       refine (sSum_any _ (0 :: b) _ (HO2.out.slc_map (R := U8) u8v (fun _ _ => rfl)) (by rw [List.length_cons]; omega)).mono ?_
       rintro e w3 ⟨v3, rfl, h3, hk3⟩
       have HB3 := Lib.hid h3
       have HK3 := Lib.hid hk3
       clear h3 hk3))
  go_ret
  exact ⟨v3, rfl, HB3.out, HK2.out.trans HK3.out⟩

theorem leafSum_any (v : Value) (b : List UInt8) (w : World) (hv : Byts w v b) (hb : b.length ≤ 1073741824) :
    Calls Tryd.prog 35 #[v] w fun e w' => ∃ v', e = .returned v' ∧ Byts w' v' (leafS b) ∧ Keep w w' := leafSum_big v b w hv (by omega)

set_option maxHeartbeats 1000000 in
theorem innerSum_any (v1 v2 : Value) (l r : List UInt8) (w : World) (hv1 : Byts w v1 l) (hv2 : Byts w v2 r) (hl : l.length ≤ 1073741824) (hr : r.length ≤ 1073741824) :
    Calls Tryd.prog 63 #[v1, v2] w fun e w' => ∃ v', e = .returned v' ∧ Byts w' v' (innerS l r) ∧ Keep w w' := by
  have HV1 := Lib.hid hv1
  have HV2 := Lib.hid hv2
  obtain ⟨A, c, rfl, h1, h2, h3, h4⟩ := hv1
  obtain ⟨B, d, rfl, g1, g2, g3, g4⟩ := hv2
  have H3 := Lib.hid h3
  have G3 := Lib.hid g3
  unfold maxLen at h2 g2
  clear h3 h4 g3 g4
  go_enter Tryd.func63, Tryd.ntmps63
  go_wp2_with (first
    | (at_builtin
       refine wpList_app rfl (.tmp 5) (.tmp 6) 22 rfl appByte' rfl (Own.made w w.heap.size 5 ([(1 : UInt8)].map u8v) (Nat.le_refl _) (by simp [maxLen])) rfl (Src.of_slc u8v (fun _ _ h => h) (HV1.out.keep ((Kp.refl _ _).alloc _))) (by intro u hu; obtain ⟨x, _, rfl⟩ := List.mem_map.1 hu; rfl) (fun e => by have h5 := H3.out e; omega) (by simp; omega) (by simp) ?_
       intro v3 w3 ho3 hk3 _
       have HO3 : Hid (Own w3 w.heap.size 5 v3 ((1 :: l).map u8v)) := Lib.hid ho3
       have HK3 : Hid (Keep w w3) := Lib.hid (((Kp.refl (fun _ => False) w).alloc _).trans' hk3 (fun i hi e => by replace e : some i = some w.heap.size := e; simp at e; omega))
       clear ho3 hk3)
    | (at_builtin
       refine wpList_app rfl (.tmp 7) (.tmp 8) 22 rfl appByte' rfl HO3.out rfl (Src.of_slc u8v (fun _ _ h => h) (HV2.out.keep HK3.out)) (by intro u hu; obtain ⟨x, _, rfl⟩ := List.mem_map.1 hu; rfl) (fun e => by have h5 := G3.out e; omega) (by simp; omega) HK3.out.size ?_
       intro v4 w4 ho4 hk4 _
       have HO4 : Hid (Own w4 w.heap.size 5 v4 ((1 :: (l ++ r)).map u8v)) := Lib.hid (by rw [show (1 :: (l ++ r)) = (1 :: l) ++ r from rfl, List.map_append]; exact ho4)
       have HK4 : Hid (Keep w w4) := Lib.hid (HK3.out.trans' hk4 (fun i hi e => by have h9 := (HO3.out.lt _ e.symm).1; omega))
       clear ho4 hk4)
    | (go_at_call 17
       refine (sSum_any _ (1 :: (l ++ r)) _ (HO4.out.slc_map (R := U8) u8v (fun _ _ => rfl)) (by rw [List.length_cons, List.length_append]; omega)).mono ?_
       rintro e w5 ⟨v5, rfl, h5, hk5⟩
       have HB5 := Lib.hid h5
       have HK5 := Lib.hid hk5
       clear h5 hk5))
  go_ret
  exact ⟨v5, rfl, HB5.out, HK4.out.trans HK5.out⟩
end Go.Proofs.YtfodkjpjejoemaaDoor
