/-
  Messages: the numbers' bytes, appended.
  Conditions: what is appended to is the call's own.
-/
import Derived.Test.YtfodkjpjejoemaaDoorMsg0
import Derived.StillTailTactics
import Derived.Deep.RegionHeld3
import Derived.Deep.DrawnRows
namespace Go.Proofs.YtfodkjpjejoemaaDoor
open Go Go.RowKit
attribute [local go_sem ↓] Go.wp_at_zero Go.wp_at_succ

theorem appB : AppOk Tryd.prog 22 5 1 := by
  obtain ⟨i0, hi, hz0, hz1, hz2⟩ := info_parts (show (Tryd.prog.info? 5).map (fun i => (i.zero, i.size, i.bytes)) = some (some (.int .u8 0), 1, 1) by kernel_rfl)
  exact ⟨Tryd.underlying22, by omega, i0, _, hi, hz0, hz1, hz2, rfl⟩
theorem one1 (L : List UInt8) : ∀ u ∈ L.map u8v, u.oneCell' = true := by
  intro u hu; obtain ⟨x, _, rfl⟩ := List.mem_map.1 hu; rfl
theorem oneB (w : World) (x : UInt8) : Src (w.alloc (.cells #[u8v x] 5)) (some ⟨w.heap.size, 0, none⟩) 1 ([x].map u8v) := Src.one (by simp)

set_option maxHeartbeats 1000000 in
theorem appendUvarint_any (base : Nat) (v : Value) (xs : List UInt8) (n : Nat) (w : World) (ho : Own w base 5 v (xs.map u8v)) (hn : n < 18446744073709551616) (hl : xs.length ≤ 1099511627776) (hb : base ≤ w.heap.size) :
    Calls Tryd.prog 84 #[v, .int .u64 n] w fun e w' => ∃ v', e = .returned v' ∧ Own w' base 5 v' ((xs ++ uvar n).map u8v) ∧ Kp (fun i => base ≤ i) w w' := by
  have HO := Lib.hid ho
  have HN10 := Lib.hid (uvar_ten n hn)
  clear ho
  go_enter Tryd.func84, Tryd.ntmps84
  go_wp2_with fail
  go_loopw [0, 1] (fun v u wr => ∃ (done : List UInt8) (m : Nat), Own wr base 5 v ((xs ++ done).map u8v) ∧ u = .int .u64 m ∧ done ++ uvar m = uvar n ∧ m < 18446744073709551616 ∧ Kp (fun i => base ≤ i) w wr) (fun _ u _ => (intOf u).toNat)
  case atStart => exact ⟨[], n, by simpa using HO.out, rfl, rfl, hn, Kp.refl _ _⟩
  case round =>
    obtain ⟨done, m, hown, rfl, hd, hm, hkp⟩ := hrel
    have HW := Lib.hid hown
    have HD := Lib.hid hd
    have HK := Lib.hid hkp
    have hdl : done.length ≤ 10 := by have h1 := HN10.out; rw [← hd, List.length_append] at h1; omega
    obtain ⟨A1, c1, rfl, f1, f2, f3, f4⟩ := hown.form
    have hll : ((xs ++ done).map u8v).length = xs.length + done.length := by simp
    have HLL := Lib.hid hll
    rw [hll] at f1 HW ⊢
    unfold maxLen at f2
    clear hown hd hkp f3 f4 hll
    by_cases hb128 : m < 128
    · have hbi : ¬ (128 : Int) ≤ (m : Int) := by omega
      have e1 : (m : Int) % 256 = ((m : Nat) : Int) := by omega
      go_wp2_with (at_builtin
                   rw [u8v_of (x := m) (by omega) (by omega)]
                   refine wpList_app rfl (.tmp 15) (.tmp 18) 22 rfl appB rfl (HW.out.alloc _) rfl (oneB _ _) (one1 [_]) (fun e => by cases e) (by rw [HLL.out]; omega) (by have := HK.out.size; simp; omega) ?_
                   intro v2 w2 h2 hk2 _
                   have HO2 := Lib.hid h2
                   have HK2 := Lib.hid hk2
                   clear h2 hk2)
      go_ret
      refine ⟨v2, rfl, ?_, (HK.out.alloc _).trans' HK2.out (fun i hi e => (HW.out.lt i e.symm).1)⟩
      have h1 := HO2.out
      rw [← List.map_append, List.append_assoc, ← uvar_small hb128, HD.out, List.map_append] at h1
      exact h1
    · have hbi : (128 : Int) ≤ (m : Int) := by omega
      have hm2 : m / 128 < 18446744073709551616 := by omega
      go_wp2_with (at_builtin
                   rw [u8_or_128 m, u8v_of (x := m % 128 + 128) (by omega) rfl]
                   refine wpList_app rfl (.tmp 7) (.tmp 11) 22 rfl appB rfl (HW.out.alloc _) rfl (oneB _ _) (one1 [_]) (fun e => by cases e) (by rw [HLL.out]; omega) (by have := HK.out.size; simp; omega) ?_
                   intro v2 w2 h2 hk2 _
                   have HO2 := Lib.hid h2
                   have HK2 := Lib.hid hk2
                   clear h2 hk2)
      go_roundw
      case rel =>
        refine ⟨done ++ [UInt8.ofNat (m % 128 + 128)], m / 128, ?_, by first | rfl | go_num, ?_, hm2, (HK.out.alloc _).trans' HK2.out (fun i hi e => (HW.out.lt i e.symm).1)⟩
        · have h1 := HO2.out
          rw [← List.map_append, List.append_assoc] at h1
          exact h1
        · rw [List.append_assoc, List.cons_append, List.nil_append, ← uvar_big hb128]; exact HD.out
      case measure => simp [intOf]; omega

theorem and_127 (m : Nat) (h : m < 18446744073709551616) : bits .and .u64 (m : Int) 127 = ((m % 128 : Nat) : Int) := by
  rw [show (127 : Int) = ((127 : Nat) : Int) from rfl, u64_and_nat _ _ h (by omega), nat_mask7]

set_option maxHeartbeats 1000000 in
theorem counted_any (z : Int) (w : World) (h1 : -9223372036854775808 ≤ z) (h2 : z ≤ 9223372036854775807) :
    Calls Tryd.prog 59 #[.int .i64 z] w fun e w' => ∃ v', e = .returned v' ∧ Own w' w.heap.size 5 v' ((uvar (asU64 z)).map u8v) ∧ Keep w w' := by
  have hn := asU64_lt z
  have HN10 := Lib.hid (uvar_ten (asU64 z) hn)
  have hz : IntKind.u64.wrap z = (asU64 z : Int) := by simp [IntKind.wrap, IntKind.bits, IntKind.signed]; unfold asU64; omega
  obtain ⟨n, hn2⟩ : ∃ n, n = asU64 z := ⟨_, rfl⟩
  rw [← hn2] at hz hn HN10
  have HNN := Lib.hid hn2
  clear hn2
  go_enter Tryd.func59, Tryd.ntmps59
  go_wp2_with fail
  go_loopw [3, 4] (fun v u wr => ∃ (done : List UInt8) (m : Nat), Own wr w.heap.size 5 v (done.map u8v) ∧ u = .int .u64 m ∧ done ++ uvar m = uvar n ∧ m < 18446744073709551616 ∧ Keep w wr) (fun _ u _ => (intOf u).toNat)
  case atStart => exact ⟨[], n, Own.nil_ _ _ _, rfl, rfl, hn, Kp.refl _ _⟩
  case round =>
    obtain ⟨done, m, hown, rfl, hd, hm, hkp⟩ := hrel
    have HW := Lib.hid hown
    have HD := Lib.hid hd
    have HK := Lib.hid hkp
    have hdl : done.length ≤ 10 := by have h1 := HN10.out; rw [← hd, List.length_append] at h1; omega
    obtain ⟨A1, c1, rfl, f1, f2, f3, f4⟩ := hown.form
    have hll : (done.map u8v).length = done.length := by simp
    have HLL := Lib.hid hll
    rw [hll] at f1 HW ⊢
    unfold maxLen at f2
    clear hown hd hkp f3 f4 hll
    by_cases hb128 : m < 128
    · have hbi : ¬ (127 : Int) < (m : Int) := by omega
      have e1 : (m : Int) % 256 = ((m : Nat) : Int) := by omega
      go_wp2_with (at_builtin
                   rw [u8v_of (x := m) (by omega) (by omega)]
                   refine wpList_app rfl (.tmp 18) (.tmp 21) 22 rfl appB rfl (HW.out.alloc _) rfl (oneB _ _) (one1 [_]) (fun e => by cases e) (by rw [HLL.out]; omega) (by have := HK.out.size; simp; omega) ?_
                   intro v2 w2 h2 hk2 _
                   have HO2 := Lib.hid h2
                   have HK2 := Lib.hid hk2
                   clear h2 hk2)
      go_ret
      refine ⟨v2, rfl, ?_, (HK.out.alloc _).trans' HK2.out (fun i hi e => by have := (HW.out.lt i e.symm).1; omega)⟩
      have h1 := HO2.out
      rw [← List.map_append, ← uvar_small hb128, HD.out, HNN.out] at h1
      exact h1
    · have hbi : (127 : Int) < (m : Int) := by omega
      have hm2 : m / 128 < 18446744073709551616 := by omega
      have ea := and_127 m hm
      have e1 : ((m % 128 : Nat) : Int) % 256 = ((m % 128 : Nat) : Int) := by omega
      have eo := u8_or_128 (m % 128)
      rw [show m % 128 % 128 = m % 128 by omega, e1] at eo
      obtain ⟨r, hr⟩ : ∃ r, r = m % 128 := ⟨_, rfl⟩
      rw [← hr] at ea e1 eo
      have HR := Lib.hid hr
      have hr128 : r < 128 := by omega
      clear hr
      go_wp2_with (at_builtin
                   rw [u8v_of (n := (r : Int) + 128) (x := r + 128) (by omega) (by omega)]
                   refine wpList_app rfl (.tmp 9) (.tmp 14) 22 rfl appB rfl (HW.out.alloc _) rfl (oneB _ _) (one1 [_]) (fun e => by cases e) (by rw [HLL.out]; omega) (by have := HK.out.size; simp; omega) ?_
                   intro v2 w2 h2 hk2 _
                   have HO2 := Lib.hid h2
                   have HK2 := Lib.hid hk2
                   clear h2 hk2)
      go_roundw
      case rel =>
        refine ⟨done ++ [UInt8.ofNat (m % 128 + 128)], m / 128, ?_, by first | rfl | go_num, ?_, hm2, (HK.out.alloc _).trans' HK2.out (fun i hi e => by have := (HW.out.lt i e.symm).1; omega)⟩
        · have h1 := HO2.out
          rw [← List.map_append, HR.out] at h1
          exact h1
        · rw [List.append_assoc, List.cons_append, List.nil_append, ← uvar_big hb128]; exact HD.out
      case measure => simp [intOf]; omega

set_option maxHeartbeats 1000000 in
theorem putBytes_any (base : Nat) (v x : Value) (xs bs : List UInt8) (f : Nat) (w : World) (ho : Own w base 5 v (xs.map u8v)) (hx : Byp w (fun i => base ≤ i) x bs) (hf : f = 1 ∨ f = 2 ∨ f = 3 ∨ f = 4) (hl : xs.length ≤ 1099511627000) (hbl : bs.length ≤ 4294967296) (hb : base ≤ w.heap.size) :
    Calls Tryd.prog 85 #[v, .int .i64 f, x] w fun e w' => ∃ v', e = .returned v' ∧ Own w' base 5 v' ((xs ++ fByt (8 * f + 2) bs).map u8v) ∧ Kp (fun i => base ≤ i) w w' := by
  have HO := Lib.hid ho
  have HX := Lib.hid hx
  obtain ⟨A, c, rfl, h1, h2, h3, h4⟩ := hx.at_
  obtain ⟨n, hn⟩ : ∃ n, n = bs.length := ⟨_, rfl⟩
  have HN := Lib.hid hn
  rw [← hn] at h1 HX ⊢
  have hnl : n ≤ 4294967296 := by omega
  have H3 := Lib.hid h3
  obtain ⟨A1, c1, rfl, f1, f2, f3, f4⟩ := ho.form
  have hll : (xs.map u8v).length = xs.length := by simp
  rw [hll] at f1 HO ⊢
  unfold maxLen at f2 h2
  have hl2 : xs.length ≤ 1099511627000 := hl
  have HLL := Lib.hid hll
  clear ho hx hn h3 h4 f3 f4 hll hbl hl
  have b1 : bits .or .i64 8 2 = 10 := by decide
  have b2 : bits .or .i64 16 2 = 18 := by decide
  have b3 : bits .or .i64 24 2 = 26 := by decide
  have b4 : bits .or .i64 32 2 = 34 := by decide
  have hnc : n ≤ c := h1
  rcases hf with rfl | rfl | rfl | rfl
  · go_enter Tryd.func85, Tryd.ntmps85
    go_wp2_with (first
      | (at_builtin
         refine wpList_app rfl (.tmp 7) (.tmp 12) 22 rfl appB rfl (HO.out.alloc _) rfl (news := [.int .u8 10]) (Src.one (by simp)) (by intro u hu; simp at hu; subst hu; rfl) (fun e => by cases e) (by rw [HLL.out]; omega) (by simp; omega) ?_
         intro v2 w2 h2 hk2 _
         have HO2 : Hid (Own w2 base 5 v2 ((xs ++ [UInt8.ofNat 10]).map u8v)) := Lib.hid (by rw [List.map_append]; exact h2)
         have HK2 : Hid (Kp (fun i => base ≤ i) w w2) := Lib.hid (((Kp.refl _ _).alloc _).trans' hk2 (fun i hi e => (HO.out.lt i e.symm).1))
         clear h2 hk2)
      | (go_at_call 84
         refine (appendUvarint_any base _ (xs ++ [UInt8.ofNat 10]) n _ HO2.out (by omega) (by simp; omega) (Nat.le_trans hb HK2.out.size)).mono ?_
         rintro e w3 ⟨v3, rfl, ho3, hk3⟩
         have HO3 := Lib.hid ho3
         have HK3 := Lib.hid (HK2.out.trans hk3)
         have hul := uvar_ten n (by omega)
         have hl3 : ((xs ++ [UInt8.ofNat 10] ++ uvar n).map u8v).length ≤ xs.length + 11 := by simp; omega
         have HL3 := Lib.hid hl3
         clear ho3 hk3 hl3 hul)
      | (at_builtin
         refine wpList_app rfl (.tmp 19) (.tmp 20) 22 rfl appB rfl HO3.out rfl (Src.of_slc u8v (fun _ _ h => h) (HX.out _ HK3.out)) (one1 _) (fun e => by have h5 := H3.out e; omega) (by have := HL3.out; omega) (Nat.le_trans hb HK3.out.size) ?_
         intro v4 w4 h4 hk4 _
         have HO4 := Lib.hid h4
         have HK4 : Hid (Kp (fun i => base ≤ i) w w4) := Lib.hid (HK3.out.trans' hk4 (fun i hi e => (HO3.out.lt i e.symm).1))
         clear h4 hk4))
    go_ret
    refine ⟨v4, rfl, ?_, HK4.out⟩
    have h5 := HO4.out
    rw [← List.map_append, HN.out] at h5
    rw [show xs ++ fByt (8 * 1 + 2) bs = xs ++ [UInt8.ofNat 10] ++ uvar bs.length ++ bs by simp [fByt]]
    exact h5
  · go_enter Tryd.func85, Tryd.ntmps85
    go_wp2_with (first
      | (at_builtin
         refine wpList_app rfl (.tmp 7) (.tmp 12) 22 rfl appB rfl (HO.out.alloc _) rfl (news := [.int .u8 18]) (Src.one (by simp)) (by intro u hu; simp at hu; subst hu; rfl) (fun e => by cases e) (by rw [HLL.out]; omega) (by simp; omega) ?_
         intro v2 w2 h2 hk2 _
         have HO2 : Hid (Own w2 base 5 v2 ((xs ++ [UInt8.ofNat 18]).map u8v)) := Lib.hid (by rw [List.map_append]; exact h2)
         have HK2 : Hid (Kp (fun i => base ≤ i) w w2) := Lib.hid (((Kp.refl _ _).alloc _).trans' hk2 (fun i hi e => (HO.out.lt i e.symm).1))
         clear h2 hk2)
      | (go_at_call 84
         refine (appendUvarint_any base _ (xs ++ [UInt8.ofNat 18]) n _ HO2.out (by omega) (by simp; omega) (Nat.le_trans hb HK2.out.size)).mono ?_
         rintro e w3 ⟨v3, rfl, ho3, hk3⟩
         have HO3 := Lib.hid ho3
         have HK3 := Lib.hid (HK2.out.trans hk3)
         have hul := uvar_ten n (by omega)
         have hl3 : ((xs ++ [UInt8.ofNat 18] ++ uvar n).map u8v).length ≤ xs.length + 11 := by simp; omega
         have HL3 := Lib.hid hl3
         clear ho3 hk3 hl3 hul)
      | (at_builtin
         refine wpList_app rfl (.tmp 19) (.tmp 20) 22 rfl appB rfl HO3.out rfl (Src.of_slc u8v (fun _ _ h => h) (HX.out _ HK3.out)) (one1 _) (fun e => by have h5 := H3.out e; omega) (by have := HL3.out; omega) (Nat.le_trans hb HK3.out.size) ?_
         intro v4 w4 h4 hk4 _
         have HO4 := Lib.hid h4
         have HK4 : Hid (Kp (fun i => base ≤ i) w w4) := Lib.hid (HK3.out.trans' hk4 (fun i hi e => (HO3.out.lt i e.symm).1))
         clear h4 hk4))
    go_ret
    refine ⟨v4, rfl, ?_, HK4.out⟩
    have h5 := HO4.out
    rw [← List.map_append, HN.out] at h5
    rw [show xs ++ fByt (8 * 2 + 2) bs = xs ++ [UInt8.ofNat 18] ++ uvar bs.length ++ bs by simp [fByt]]
    exact h5
  · go_enter Tryd.func85, Tryd.ntmps85
    go_wp2_with (first
      | (at_builtin
         refine wpList_app rfl (.tmp 7) (.tmp 12) 22 rfl appB rfl (HO.out.alloc _) rfl (news := [.int .u8 26]) (Src.one (by simp)) (by intro u hu; simp at hu; subst hu; rfl) (fun e => by cases e) (by rw [HLL.out]; omega) (by simp; omega) ?_
         intro v2 w2 h2 hk2 _
         have HO2 : Hid (Own w2 base 5 v2 ((xs ++ [UInt8.ofNat 26]).map u8v)) := Lib.hid (by rw [List.map_append]; exact h2)
         have HK2 : Hid (Kp (fun i => base ≤ i) w w2) := Lib.hid (((Kp.refl _ _).alloc _).trans' hk2 (fun i hi e => (HO.out.lt i e.symm).1))
         clear h2 hk2)
      | (go_at_call 84
         refine (appendUvarint_any base _ (xs ++ [UInt8.ofNat 26]) n _ HO2.out (by omega) (by simp; omega) (Nat.le_trans hb HK2.out.size)).mono ?_
         rintro e w3 ⟨v3, rfl, ho3, hk3⟩
         have HO3 := Lib.hid ho3
         have HK3 := Lib.hid (HK2.out.trans hk3)
         have hul := uvar_ten n (by omega)
         have hl3 : ((xs ++ [UInt8.ofNat 26] ++ uvar n).map u8v).length ≤ xs.length + 11 := by simp; omega
         have HL3 := Lib.hid hl3
         clear ho3 hk3 hl3 hul)
      | (at_builtin
         refine wpList_app rfl (.tmp 19) (.tmp 20) 22 rfl appB rfl HO3.out rfl (Src.of_slc u8v (fun _ _ h => h) (HX.out _ HK3.out)) (one1 _) (fun e => by have h5 := H3.out e; omega) (by have := HL3.out; omega) (Nat.le_trans hb HK3.out.size) ?_
         intro v4 w4 h4 hk4 _
         have HO4 := Lib.hid h4
         have HK4 : Hid (Kp (fun i => base ≤ i) w w4) := Lib.hid (HK3.out.trans' hk4 (fun i hi e => (HO3.out.lt i e.symm).1))
         clear h4 hk4))
    go_ret
    refine ⟨v4, rfl, ?_, HK4.out⟩
    have h5 := HO4.out
    rw [← List.map_append, HN.out] at h5
    rw [show xs ++ fByt (8 * 3 + 2) bs = xs ++ [UInt8.ofNat 26] ++ uvar bs.length ++ bs by simp [fByt]]
    exact h5
  · go_enter Tryd.func85, Tryd.ntmps85
    go_wp2_with (first
      | (at_builtin
         refine wpList_app rfl (.tmp 7) (.tmp 12) 22 rfl appB rfl (HO.out.alloc _) rfl (news := [.int .u8 34]) (Src.one (by simp)) (by intro u hu; simp at hu; subst hu; rfl) (fun e => by cases e) (by rw [HLL.out]; omega) (by simp; omega) ?_
         intro v2 w2 h2 hk2 _
         have HO2 : Hid (Own w2 base 5 v2 ((xs ++ [UInt8.ofNat 34]).map u8v)) := Lib.hid (by rw [List.map_append]; exact h2)
         have HK2 : Hid (Kp (fun i => base ≤ i) w w2) := Lib.hid (((Kp.refl _ _).alloc _).trans' hk2 (fun i hi e => (HO.out.lt i e.symm).1))
         clear h2 hk2)
      | (go_at_call 84
         refine (appendUvarint_any base _ (xs ++ [UInt8.ofNat 34]) n _ HO2.out (by omega) (by simp; omega) (Nat.le_trans hb HK2.out.size)).mono ?_
         rintro e w3 ⟨v3, rfl, ho3, hk3⟩
         have HO3 := Lib.hid ho3
         have HK3 := Lib.hid (HK2.out.trans hk3)
         have hul := uvar_ten n (by omega)
         have hl3 : ((xs ++ [UInt8.ofNat 34] ++ uvar n).map u8v).length ≤ xs.length + 11 := by simp; omega
         have HL3 := Lib.hid hl3
         clear ho3 hk3 hl3 hul)
      | (at_builtin
         refine wpList_app rfl (.tmp 19) (.tmp 20) 22 rfl appB rfl HO3.out rfl (Src.of_slc u8v (fun _ _ h => h) (HX.out _ HK3.out)) (one1 _) (fun e => by have h5 := H3.out e; omega) (by have := HL3.out; omega) (Nat.le_trans hb HK3.out.size) ?_
         intro v4 w4 h4 hk4 _
         have HO4 := Lib.hid h4
         have HK4 : Hid (Kp (fun i => base ≤ i) w w4) := Lib.hid (HK3.out.trans' hk4 (fun i hi e => (HO3.out.lt i e.symm).1))
         clear h4 hk4))
    go_ret
    refine ⟨v4, rfl, ?_, HK4.out⟩
    have h5 := HO4.out
    rw [← List.map_append, HN.out] at h5
    rw [show xs ++ fByt (8 * 4 + 2) bs = xs ++ [UInt8.ofNat 34] ++ uvar bs.length ++ bs by simp [fByt]]
    exact h5
end Go.Proofs.YtfodkjpjejoemaaDoor
