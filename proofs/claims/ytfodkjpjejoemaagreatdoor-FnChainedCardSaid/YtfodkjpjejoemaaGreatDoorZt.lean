
/-
  Messages of protocol buffers in plain Lean: numbers of seven bits a byte, fields.
  Conditions: none (laws).
-/
import Derived.Test.YtfodkjpjejoemaaGreatDoorZi
import Derived.Test.YtfodkjpjejoemaaGreatDoorZa
import Derived.Laws.BitsAllLaws
import Derived.StillTailTactics
import Derived.Deep.RegionHeld3
import Derived.Deep.DrawnRows
import Derived.Deep.DeepCutAuto
namespace Go.Proofs.YtfodkjpjejoemaaGreatDoor
open Go Go.RowKit

/-- seven bits a byte, the lowest ones first -/
def uvar (n : Nat) : List UInt8 := if n < 128 then [UInt8.ofNat n] else UInt8.ofNat (n % 128 + 128) :: uvar (n / 128)
termination_by n
decreasing_by omega
theorem uvar_small {n : Nat} (h : n < 128) : uvar n = [UInt8.ofNat n] := by rw [uvar, if_pos h]
theorem uvar_big {n : Nat} (h : ¬ n < 128) : uvar n = UInt8.ofNat (n % 128 + 128) :: uvar (n / 128) := by rw [uvar, if_neg h]
theorem uvar_length_le : ∀ (k n : Nat), 0 < k → n < 128 ^ k → (uvar n).length ≤ k := by
  intro k
  induction k with
  | zero => intro n h; omega
  | succ k ih =>
    intro n _ hn
    by_cases h : n < 128
    · rw [uvar_small h]; simp
    · rw [uvar_big h, List.length_cons]
      have hk : 0 < k := by
        rcases Nat.eq_zero_or_pos k with h0 | h0
        · subst h0; simp at hn; omega
        · exact h0
      have : n / 128 < 128 ^ k := by rw [Nat.pow_succ] at hn; exact Nat.div_lt_of_lt_mul (by rw [Nat.mul_comm]; exact hn)
      have := ih (n / 128) hk this
      omega
theorem uvar_ten (n : Nat) (h : n < 18446744073709551616) : (uvar n).length ≤ 10 :=
  uvar_length_le 10 n (by decide) (Nat.lt_of_lt_of_le h (by decide))
theorem uvar_pos (n : Nat) : 0 < (uvar n).length := by
  by_cases h : n < 128
  · rw [uvar_small h]; simp
  · rw [uvar_big h]; simp

theorem or_128 (x : Nat) (h : x < 256) : x ||| 128 = x % 128 + 128 := by
  have : ∀ y : Fin 256, y.val ||| 128 = y.val % 128 + 128 := by decide +kernel
  exact this ⟨x, h⟩
theorem u8_or_128 (m : Nat) : bits .or .u8 ((m : Int) % 256) 128 = ((m % 128 + 128 : Nat) : Int) := by
  have e : (m : Int) % 256 = ((m % 256 : Nat) : Int) := by omega
  rw [e, show (128 : Int) = ((128 : Nat) : Int) from rfl, u8_or_nat _ _ (by omega) (by omega), or_128 _ (by omega)]
  omega
theorem u8v_of {n : Int} {x : Nat} (hx : x < 256) (h : n = (x : Int)) : Value.int .u8 n = u8v (UInt8.ofNat x) := by
  subst h; simp [UInt8.toNat_ofNat', Nat.mod_eq_of_lt hx]

/-- a field of a number, of bytes -/
def fNum (tag n : Nat) : List UInt8 := if n = 0 then [] else UInt8.ofNat tag :: uvar n
def fByt (tag : Nat) (b : List UInt8) : List UInt8 := UInt8.ofNat tag :: (uvar b.length ++ b)
/-- an int64 as a word -/
def asU64 (z : Int) : Nat := (z % 18446744073709551616).toNat
theorem asU64_lt (z : Int) : asU64 z < 18446744073709551616 := by unfold asU64; omega
theorem asU64_zero (z : Int) (h1 : -9223372036854775808 ≤ z) (h2 : z ≤ 9223372036854775807) : asU64 z = 0 ↔ z = 0 := by unfold asU64; omega
def msgOf (p : Prf) : List UInt8 :=
  fNum 8 (asU64 p.total) ++ (fNum 16 (asU64 p.index) ++ ((if p.leaf = [] then [] else fByt 26 p.leaf) ++ p.aunts.flatMap (fByt 34)))
end Go.Proofs.YtfodkjpjejoemaaGreatDoor

/-
  Messages: the numbers' bytes, appended.
  Conditions: what is appended to is the call's own.
-/
namespace Go.Proofs.YtfodkjpjejoemaaGreatDoor
open Go Go.RowKit
attribute [local go_sem ↓] Go.wp_at_zero Go.wp_at_succ

set_option maxHeartbeats 1000000 in
theorem appendUvarint_any (base : Nat) (v : Value) (xs : List UInt8) (n : Nat) (w : World) (ho : Own w base 5 v (xs.map u8v)) (hn : n < 18446744073709551616) (hl : xs.length ≤ 1099511627776) (hb : base ≤ w.heap.size) :
    Calls Tryz.prog 55 #[v, .int .u64 n] w fun e w' => ∃ v', e = .returned v' ∧ Own w' base 5 v' ((xs ++ uvar n).map u8v) ∧ Kp (fun i => base ≤ i) w w' := by
  have HO := Lib.hid ho
  have HN10 := Lib.hid (uvar_ten n hn)
  clear ho
  go_enter Tryz.func55, Tryz.ntmps55
  go_wp2_with fail
  go_loopw [0, 1] (fun v u wr => ∃ (done : List UInt8) (m : Nat), Own wr base 5 v ((xs ++ done).map u8v) ∧ u = .int .u64 m ∧ done ++ uvar m = uvar n ∧ m < 18446744073709551616 ∧ Kp (fun i => base ≤ i) w wr) (fun _ u _ => (intOf u).toNat)
  case atStart => exact ⟨[], n, by simpa using HO.out, rfl, rfl, hn, Kp.refl _ _⟩
  case round =>
    obtain ⟨done, m, hown, rfl, hd, hm, hkp⟩ := hrel
    have HW := Lib.hid hown
    have HD := Lib.hid hd
    have HK := Lib.hid hkp
    have hdl : done.length ≤ 10 := by have h1 := HN10.out; rw [← hd, List.length_append] at h1; omega
    obtain ⟨A1, c1, rfl, f1, f2, f3, f4⟩ := hown.form
    have hll : ((xs ++ done).map u8v).length = xs.length + done.length := by simp
    have HLL := Lib.hid hll
    rw [hll] at f1 HW ⊢
    unfold maxLen at f2
    clear hown hd hkp f3 f4 hll
    by_cases hb128 : m < 128
    · have hbi : ¬ (128 : Int) ≤ (m : Int) := by omega
      have e1 : (m : Int) % 256 = ((m : Nat) : Int) := by omega
      go_wp2_with (at_builtin
                   rw [u8v_of (x := m) (by omega) (by omega)]
                   refine wpList_app rfl (.tmp 15) (.tmp 18) 24 rfl appB rfl (HW.out.alloc _) rfl (oneB _ _) (one1 [_]) (fun e => by cases e) (by rw [HLL.out]; omega) (by have := HK.out.size; simp; omega) ?_
                   intro v2 w2 h2 hk2 _
                   have HO2 := Lib.hid h2
                   have HK2 := Lib.hid hk2
                   clear h2 hk2)
      go_ret
      refine ⟨v2, rfl, ?_, (HK.out.alloc _).trans' HK2.out (fun i hi e => (HW.out.lt i e.symm).1)⟩
      have h1 := HO2.out
      rw [← List.map_append, List.append_assoc, ← uvar_small hb128, HD.out, List.map_append] at h1
      exact h1
    · have hbi : (128 : Int) ≤ (m : Int) := by omega
      have hm2 : m / 128 < 18446744073709551616 := by omega
      go_wp2_with (at_builtin
                   rw [u8_or_128 m, u8v_of (x := m % 128 + 128) (by omega) rfl]
                   refine wpList_app rfl (.tmp 7) (.tmp 11) 24 rfl appB rfl (HW.out.alloc _) rfl (oneB _ _) (one1 [_]) (fun e => by cases e) (by rw [HLL.out]; omega) (by have := HK.out.size; simp; omega) ?_
                   intro v2 w2 h2 hk2 _
                   have HO2 := Lib.hid h2
                   have HK2 := Lib.hid hk2
                   clear h2 hk2)
      go_roundw
      case rel =>
        refine ⟨done ++ [UInt8.ofNat (m % 128 + 128)], m / 128, ?_, by first | rfl | go_num, ?_, hm2, (HK.out.alloc _).trans' HK2.out (fun i hi e => (HW.out.lt i e.symm).1)⟩
        · have h1 := HO2.out
          rw [← List.map_append, List.append_assoc] at h1
          exact h1
        · rw [List.append_assoc, List.cons_append, List.nil_append, ← uvar_big hb128]; exact HD.out
      case measure => simp [intOf]; omega

theorem and_127 (m : Nat) (h : m < 18446744073709551616) : bits .and .u64 (m : Int) 127 = ((m % 128 : Nat) : Int) := by
  rw [show (127 : Int) = ((127 : Nat) : Int) from rfl, u64_and_nat _ _ h (by omega), nat_mask7]

set_option maxHeartbeats 1000000 in
theorem counted_any (z : Int) (w : World) (_ : -9223372036854775808 ≤ z) (_ : z ≤ 9223372036854775807) :
    Calls Tryz.prog 28 #[.int .i64 z] w fun e w' => ∃ v', e = .returned v' ∧ Own w' w.heap.size 5 v' ((uvar (asU64 z)).map u8v) ∧ Keep w w' := by
  have hn := asU64_lt z
  have HN10 := Lib.hid (uvar_ten (asU64 z) hn)
  have hz : IntKind.u64.wrap z = (asU64 z : Int) := by simp [IntKind.wrap, IntKind.bits, IntKind.signed]; unfold asU64; omega
  obtain ⟨n, hn2⟩ : ∃ n, n = asU64 z := ⟨_, rfl⟩
  rw [← hn2] at hz hn HN10
  have HNN := Lib.hid hn2
  clear hn2
  go_enter Tryz.func28, Tryz.ntmps28
  go_wp2_with fail
  go_loopw [3, 4] (fun v u wr => ∃ (done : List UInt8) (m : Nat), Own wr w.heap.size 5 v (done.map u8v) ∧ u = .int .u64 m ∧ done ++ uvar m = uvar n ∧ m < 18446744073709551616 ∧ Keep w wr) (fun _ u _ => (intOf u).toNat)
  case atStart => exact ⟨[], n, Own.nil_ _ _ _, rfl, rfl, hn, Kp.refl _ _⟩
  case round =>
    obtain ⟨done, m, hown, rfl, hd, hm, hkp⟩ := hrel
    have HW := Lib.hid hown
    have HD := Lib.hid hd
    have HK := Lib.hid hkp
    have hdl : done.length ≤ 10 := by have h1 := HN10.out; rw [← hd, List.length_append] at h1; omega
    obtain ⟨A1, c1, rfl, f1, f2, f3, f4⟩ := hown.form
    have hll : (done.map u8v).length = done.length := by simp
    have HLL := Lib.hid hll
    rw [hll] at f1 HW ⊢
    unfold maxLen at f2
    clear hown hd hkp f3 f4 hll
    by_cases hb128 : m < 128
    · have hbi : ¬ (127 : Int) < (m : Int) := by omega
      have e1 : (m : Int) % 256 = ((m : Nat) : Int) := by omega
      go_wp2_with (at_builtin
                   rw [u8v_of (x := m) (by omega) (by omega)]
                   refine wpList_app rfl (.tmp 18) (.tmp 21) 24 rfl appB rfl (HW.out.alloc _) rfl (oneB _ _) (one1 [_]) (fun e => by cases e) (by rw [HLL.out]; omega) (by have := HK.out.size; simp; omega) ?_
                   intro v2 w2 h2 hk2 _
                   have HO2 := Lib.hid h2
                   have HK2 := Lib.hid hk2
                   clear h2 hk2)
      go_ret
      refine ⟨v2, rfl, ?_, (HK.out.alloc _).trans' HK2.out (fun i hi e => by have := (HW.out.lt i e.symm).1; omega)⟩
      have h1 := HO2.out
      rw [← List.map_append, ← uvar_small hb128, HD.out, HNN.out] at h1
      exact h1
    · have hbi : (127 : Int) < (m : Int) := by omega
      have hm2 : m / 128 < 18446744073709551616 := by omega
      have ea := and_127 m hm
      have e1 : ((m % 128 : Nat) : Int) % 256 = ((m % 128 : Nat) : Int) := by omega
      have eo := u8_or_128 (m % 128)
      rw [show m % 128 % 128 = m % 128 by omega, e1] at eo
      obtain ⟨r, hr⟩ : ∃ r, r = m % 128 := ⟨_, rfl⟩
      rw [← hr] at ea e1 eo
      have HR := Lib.hid hr
      have hr128 : r < 128 := by omega
      clear hr
      go_wp2_with (at_builtin
                   rw [u8v_of (n := (r : Int) + 128) (x := r + 128) (by omega) (by omega)]
                   refine wpList_app rfl (.tmp 9) (.tmp 14) 24 rfl appB rfl (HW.out.alloc _) rfl (oneB _ _) (one1 [_]) (fun e => by cases e) (by rw [HLL.out]; omega) (by have := HK.out.size; simp; omega) ?_
                   intro v2 w2 h2 hk2 _
                   have HO2 := Lib.hid h2
                   have HK2 := Lib.hid hk2
                   clear h2 hk2)
      go_roundw
      case rel =>
        refine ⟨done ++ [UInt8.ofNat (m % 128 + 128)], m / 128, ?_, by first | rfl | go_num, ?_, hm2, (HK.out.alloc _).trans' HK2.out (fun i hi e => by have := (HW.out.lt i e.symm).1; omega)⟩
        · have h1 := HO2.out
          rw [← List.map_append, HR.out] at h1
          exact h1
        · rw [List.append_assoc, List.cons_append, List.nil_append, ← uvar_big hb128]; exact HD.out
      case measure => simp [intOf]; omega

set_option maxHeartbeats 1000000 in
theorem putBytes_any (base : Nat) (v x : Value) (xs bs : List UInt8) (f : Nat) (w : World) (ho : Own w base 5 v (xs.map u8v)) (hx : Byp w (fun i => base ≤ i) x bs) (hf : f = 1 ∨ f = 2 ∨ f = 3 ∨ f = 4) (hl : xs.length ≤ 1099511627000) (hbl : bs.length ≤ 4294967296) (hb : base ≤ w.heap.size) :
    Calls Tryz.prog 42 #[v, .int .i64 f, x] w fun e w' => ∃ v', e = .returned v' ∧ Own w' base 5 v' ((xs ++ fByt (8 * f + 2) bs).map u8v) ∧ Kp (fun i => base ≤ i) w w' := by
  have HO := Lib.hid ho
  have HX := Lib.hid hx
  obtain ⟨A, c, rfl, h1, h2, h3, h4⟩ := hx.at_
  obtain ⟨n, hn⟩ : ∃ n, n = bs.length := ⟨_, rfl⟩
  have HN := Lib.hid hn
  rw [← hn] at h1 HX ⊢
  have hnl : n ≤ 4294967296 := by omega
  have H3 := Lib.hid h3
  obtain ⟨A1, c1, rfl, f1, f2, f3, f4⟩ := ho.form
  have hll : (xs.map u8v).length = xs.length := by simp
  rw [hll] at f1 HO ⊢
  unfold maxLen at f2 h2
  have hl2 : xs.length ≤ 1099511627000 := hl
  have HLL := Lib.hid hll
  clear ho hx hn h3 h4 f3 f4 hll hbl hl
  have b1 : bits .or .i64 8 2 = 10 := by decide
  have b2 : bits .or .i64 16 2 = 18 := by decide
  have b3 : bits .or .i64 24 2 = 26 := by decide
  have b4 : bits .or .i64 32 2 = 34 := by decide
  have hnc : n ≤ c := h1
  rcases hf with rfl | rfl | rfl | rfl
  · go_enter Tryz.func42, Tryz.ntmps42
    go_wp2_with (first
      | (at_builtin
         refine wpList_app rfl (.tmp 7) (.tmp 12) 24 rfl appB rfl (HO.out.alloc _) rfl (news := [.int .u8 10]) (Src.one (by simp)) (by intro u hu; simp at hu; subst hu; rfl) (fun e => by cases e) (by rw [HLL.out]; omega) (by simp; omega) ?_
         intro v2 w2 h2 hk2 _
         have HO2 : Hid (Own w2 base 5 v2 ((xs ++ [UInt8.ofNat 10]).map u8v)) := Lib.hid (by rw [List.map_append]; exact h2)
         have HK2 : Hid (Kp (fun i => base ≤ i) w w2) := Lib.hid (((Kp.refl _ _).alloc _).trans' hk2 (fun i hi e => (HO.out.lt i e.symm).1))
         clear h2 hk2)
      | (go_at_call 55
         refine (appendUvarint_any base _ (xs ++ [UInt8.ofNat 10]) n _ HO2.out (by omega) (by simp; omega) (Nat.le_trans hb HK2.out.size)).mono ?_
         rintro e w3 ⟨v3, rfl, ho3, hk3⟩
         have HO3 := Lib.hid ho3
         have HK3 := Lib.hid (HK2.out.trans hk3)
         have hul := uvar_ten n (by omega)
         have hl3 : ((xs ++ [UInt8.ofNat 10] ++ uvar n).map u8v).length ≤ xs.length + 11 := by simp; omega
         have HL3 := Lib.hid hl3
         clear ho3 hk3 hl3 hul)
      | (at_builtin
         refine wpList_app rfl (.tmp 19) (.tmp 20) 24 rfl appB rfl HO3.out rfl (Src.of_slc u8v (fun _ _ h => h) (HX.out _ HK3.out)) (one1 _) (fun e => by have h5 := H3.out e; omega) (by have := HL3.out; omega) (Nat.le_trans hb HK3.out.size) ?_
         intro v4 w4 h4 hk4 _
         have HO4 := Lib.hid h4
         have HK4 : Hid (Kp (fun i => base ≤ i) w w4) := Lib.hid (HK3.out.trans' hk4 (fun i hi e => (HO3.out.lt i e.symm).1))
         clear h4 hk4))
    go_ret
    refine ⟨v4, rfl, ?_, HK4.out⟩
    have h5 := HO4.out
    rw [← List.map_append, HN.out] at h5
    rw [show xs ++ fByt (8 * 1 + 2) bs = xs ++ [UInt8.ofNat 10] ++ uvar bs.length ++ bs by simp [fByt]]
    exact h5
  · go_enter Tryz.func42, Tryz.ntmps42
    go_wp2_with (first
      | (at_builtin
         refine wpList_app rfl (.tmp 7) (.tmp 12) 24 rfl appB rfl (HO.out.alloc _) rfl (news := [.int .u8 18]) (Src.one (by simp)) (by intro u hu; simp at hu; subst hu; rfl) (fun e => by cases e) (by rw [HLL.out]; omega) (by simp; omega) ?_
         intro v2 w2 h2 hk2 _
         have HO2 : Hid (Own w2 base 5 v2 ((xs ++ [UInt8.ofNat 18]).map u8v)) := Lib.hid (by rw [List.map_append]; exact h2)
         have HK2 : Hid (Kp (fun i => base ≤ i) w w2) := Lib.hid (((Kp.refl _ _).alloc _).trans' hk2 (fun i hi e => (HO.out.lt i e.symm).1))
         clear h2 hk2)
      | (go_at_call 55
         refine (appendUvarint_any base _ (xs ++ [UInt8.ofNat 18]) n _ HO2.out (by omega) (by simp; omega) (Nat.le_trans hb HK2.out.size)).mono ?_
         rintro e w3 ⟨v3, rfl, ho3, hk3⟩
         have HO3 := Lib.hid ho3
         have HK3 := Lib.hid (HK2.out.trans hk3)
         have hul := uvar_ten n (by omega)
         have hl3 : ((xs ++ [UInt8.ofNat 18] ++ uvar n).map u8v).length ≤ xs.length + 11 := by simp; omega
         have HL3 := Lib.hid hl3
         clear ho3 hk3 hl3 hul)
      | (at_builtin
         refine wpList_app rfl (.tmp 19) (.tmp 20) 24 rfl appB rfl HO3.out rfl (Src.of_slc u8v (fun _ _ h => h) (HX.out _ HK3.out)) (one1 _) (fun e => by have h5 := H3.out e; omega) (by have := HL3.out; omega) (Nat.le_trans hb HK3.out.size) ?_
         intro v4 w4 h4 hk4 _
         have HO4 := Lib.hid h4
         have HK4 : Hid (Kp (fun i => base ≤ i) w w4) := Lib.hid (HK3.out.trans' hk4 (fun i hi e => (HO3.out.lt i e.symm).1))
         clear h4 hk4))
    go_ret
    refine ⟨v4, rfl, ?_, HK4.out⟩
    have h5 := HO4.out
    rw [← List.map_append, HN.out] at h5
    rw [show xs ++ fByt (8 * 2 + 2) bs = xs ++ [UInt8.ofNat 18] ++ uvar bs.length ++ bs by simp [fByt]]
    exact h5
  · go_enter Tryz.func42, Tryz.ntmps42
    go_wp2_with (first
      | (at_builtin
         refine wpList_app rfl (.tmp 7) (.tmp 12) 24 rfl appB rfl (HO.out.alloc _) rfl (news := [.int .u8 26]) (Src.one (by simp)) (by intro u hu; simp at hu; subst hu; rfl) (fun e => by cases e) (by rw [HLL.out]; omega) (by simp; omega) ?_
         intro v2 w2 h2 hk2 _
         have HO2 : Hid (Own w2 base 5 v2 ((xs ++ [UInt8.ofNat 26]).map u8v)) := Lib.hid (by rw [List.map_append]; exact h2)
         have HK2 : Hid (Kp (fun i => base ≤ i) w w2) := Lib.hid (((Kp.refl _ _).alloc _).trans' hk2 (fun i hi e => (HO.out.lt i e.symm).1))
         clear h2 hk2)
      | (go_at_call 55
         refine (appendUvarint_any base _ (xs ++ [UInt8.ofNat 26]) n _ HO2.out (by omega) (by simp; omega) (Nat.le_trans hb HK2.out.size)).mono ?_
         rintro e w3 ⟨v3, rfl, ho3, hk3⟩
         have HO3 := Lib.hid ho3
         have HK3 := Lib.hid (HK2.out.trans hk3)
         have hul := uvar_ten n (by omega)
         have hl3 : ((xs ++ [UInt8.ofNat 26] ++ uvar n).map u8v).length ≤ xs.length + 11 := by simp; omega
         have HL3 := Lib.hid hl3
         clear ho3 hk3 hl3 hul)
      | (at_builtin
         refine wpList_app rfl (.tmp 19) (.tmp 20) 24 rfl appB rfl HO3.out rfl (Src.of_slc u8v (fun _ _ h => h) (HX.out _ HK3.out)) (one1 _) (fun e => by have h5 := H3.out e; omega) (by have := HL3.out; omega) (Nat.le_trans hb HK3.out.size) ?_
         intro v4 w4 h4 hk4 _
         have HO4 := Lib.hid h4
         have HK4 : Hid (Kp (fun i => base ≤ i) w w4) := Lib.hid (HK3.out.trans' hk4 (fun i hi e => (HO3.out.lt i e.symm).1))
         clear h4 hk4))
    go_ret
    refine ⟨v4, rfl, ?_, HK4.out⟩
    have h5 := HO4.out
    rw [← List.map_append, HN.out] at h5
    rw [show xs ++ fByt (8 * 3 + 2) bs = xs ++ [UInt8.ofNat 26] ++ uvar bs.length ++ bs by simp [fByt]]
    exact h5
  · go_enter Tryz.func42, Tryz.ntmps42
    go_wp2_with (first
      | (at_builtin
         refine wpList_app rfl (.tmp 7) (.tmp 12) 24 rfl appB rfl (HO.out.alloc _) rfl (news := [.int .u8 34]) (Src.one (by simp)) (by intro u hu; simp at hu; subst hu; rfl) (fun e => by cases e) (by rw [HLL.out]; omega) (by simp; omega) ?_
         intro v2 w2 h2 hk2 _
         have HO2 : Hid (Own w2 base 5 v2 ((xs ++ [UInt8.ofNat 34]).map u8v)) := Lib.hid (by rw [List.map_append]; exact h2)
         have HK2 : Hid (Kp (fun i => base ≤ i) w w2) := Lib.hid (((Kp.refl _ _).alloc _).trans' hk2 (fun i hi e => (HO.out.lt i e.symm).1))
         clear h2 hk2)
      | (go_at_call 55
         refine (appendUvarint_any base _ (xs ++ [UInt8.ofNat 34]) n _ HO2.out (by omega) (by simp; omega) (Nat.le_trans hb HK2.out.size)).mono ?_
         rintro e w3 ⟨v3, rfl, ho3, hk3⟩
         have HO3 := Lib.hid ho3
         have HK3 := Lib.hid (HK2.out.trans hk3)
         have hul := uvar_ten n (by omega)
         have hl3 : ((xs ++ [UInt8.ofNat 34] ++ uvar n).map u8v).length ≤ xs.length + 11 := by simp; omega
         have HL3 := Lib.hid hl3
         clear ho3 hk3 hl3 hul)
      | (at_builtin
         refine wpList_app rfl (.tmp 19) (.tmp 20) 24 rfl appB rfl HO3.out rfl (Src.of_slc u8v (fun _ _ h => h) (HX.out _ HK3.out)) (one1 _) (fun e => by have h5 := H3.out e; omega) (by have := HL3.out; omega) (Nat.le_trans hb HK3.out.size) ?_
         intro v4 w4 h4 hk4 _
         have HO4 := Lib.hid h4
         have HK4 : Hid (Kp (fun i => base ≤ i) w w4) := Lib.hid (HK3.out.trans' hk4 (fun i hi e => (HO3.out.lt i e.symm).1))
         clear h4 hk4))
    go_ret
    refine ⟨v4, rfl, ?_, HK4.out⟩
    have h5 := HO4.out
    rw [← List.map_append, HN.out] at h5
    rw [show xs ++ fByt (8 * 4 + 2) bs = xs ++ [UInt8.ofNat 34] ++ uvar bs.length ++ bs by simp [fByt]]
    exact h5
end Go.Proofs.YtfodkjpjejoemaaGreatDoor

/-
  Messages: a proof as a message, by the package.
  Conditions: the proof is known in memory; the message has at most 2^40 bytes.
-/
namespace Go.Proofs.YtfodkjpjejoemaaGreatDoor
open Go Go.RowKit
attribute [local go_sem ↓] Go.wp_at_zero Go.wp_at_succ

theorem wrap_asU64 (z : Int) : IntKind.u64.wrap z = (asU64 z : Int) := by simp [IntKind.wrap, IntKind.bits, IntKind.signed]; unfold asU64; omega
theorem fNum_nz {tag n : Nat} (h : n ≠ 0) : fNum tag n = UInt8.ofNat tag :: uvar n := by unfold fNum; rw [if_neg h]
theorem fNum_z {tag : Nat} : fNum tag 0 = [] := by unfold fNum; rw [if_pos rfl]

/-- what was there when the call began stays where only newer blocks are written -/
theorem Byts.byp' {w w1 : World} {v : Value} {L : List UInt8} (_ : Byts w1 v L) (B : Nat) (h : Byts w v L) (k : Keep w w1) (hB : B = w.heap.size := by rfl) : Byp w1 (fun i => B ≤ i) v L := fun wx kx => by
  subst hB
  obtain ⟨A, c, hv, a1, a2, a3, a4⟩ := h
  refine ⟨A, c, hv, a1, a2, a3, fun hn => ?_⟩
  obtain ⟨b', off, hA, hc⟩ := a4 hn
  refine ⟨b', off, hA, fun i hi => ?_⟩
  obtain ⟨u, hu, hr⟩ := hc i hi
  exact ⟨u, kx.cell_of (k.cell_of hu (fun x => x)) (fun e => by have := World.block_lt_of_cell? w _ hu; simp at e this; omega), hr⟩
theorem flat_take_le (L : List (List UInt8)) (f : List UInt8 → List UInt8) (k : Nat) : ((L.take k).flatMap f).length ≤ (L.flatMap f).length := by
  conv => rhs; rw [← List.take_append_drop k L]
  rw [List.flatMap_append, List.length_append]; omega
theorem flat_take_succ (L : List (List UInt8)) (f : List UInt8 → List UInt8) (k : Nat) (h : k < L.length) : (L.take (k + 1)).flatMap f = (L.take k).flatMap f ++ f L[k] := by
  rw [List.take_succ_eq_append_getElem h, List.flatMap_append]; simp

set_option maxRecDepth 100000 in
set_option maxHeartbeats 4000000 in
theorem marshal_any (b : Nat) (p : Prf) (w : World) (h : PrfAt w b p) (hl : p.leaf.length ≤ 4294967296) (ha : ∀ a ∈ p.aunts, a.length ≤ 4294967296) (hm : (msgOf p).length ≤ 1099511626000) :
    Calls Tryz.prog 43 #[.pointer (some ⟨b, 0, none⟩)] w fun e w' => ∃ v', e = .returned v' ∧ Own w' w.heap.size 5 v' ((msgOf p).map u8v) ∧ Keep w w' := by
  obtain ⟨lv, av, hc0, hc1, hc2, hc3, hlv, hav, b1, b2, b3, b4⟩ := h
  have HC0 := Lib.hid hc0
  have HC1 := Lib.hid hc1
  have HC2 := Lib.hid hc2
  have HC3 := Lib.hid hc3
  have HLV := Lib.hid hlv
  have HAV := Lib.hid hav
  have HA := Lib.hid ha
  obtain ⟨A0, d0, rfl, g1, g2, g3, g4⟩ := hlv
  obtain ⟨A1, d1, rfl, k1, k2, k3, k4⟩ := hav
  unfold maxLen at g2 k2
  have hml : (msgOf p).length = (fNum 8 (asU64 p.total)).length + ((fNum 16 (asU64 p.index)).length + ((if p.leaf = [] then [] else fByt 26 p.leaf).length + (p.aunts.flatMap (fByt 34)).length)) := by simp [msgOf]
  have HML := Lib.hid hml
  have ww0 := wrap_asU64 p.total
  have ww1 := wrap_asU64 p.index
  have u0 := uvar_ten _ (asU64_lt p.total)
  have u1 := uvar_ten _ (asU64_lt p.index)
  have bw := World.block_lt_of_cell? w _ hc0
  simp only at bw
  clear g3 g4 k3 k4 hml ha hc1 hc2 hc3
  go_enter Tryz.func43, Tryz.ntmps43
  go_upto_if 10 with fail
  go_cut [3] (fun v wc => Own wc w.heap.size 5 v ((fNum 8 (asU64 p.total)).map u8v) ∧ Keep w wc)
  case first =>
    by_cases h0 : p.total = 0
    · have hz : (p.total != 0) = false := by simp [h0]
      have e0 : fNum 8 (asU64 p.total) = [] := by rw [(asU64_zero _ b1 b2).2 h0]; exact fNum_z
      have HE := Lib.hid e0
      clear h0 e0
      go_wp2_with fail
      go_meet
      exact ⟨by rw [HE.out]; exact Own.nil_ _ _ _, Kp.refl _ _⟩
    · have hz : (p.total != 0) = true := by simp [h0]
      have e0 : fNum 8 (asU64 p.total) = UInt8.ofNat 8 :: uvar (asU64 p.total) := fNum_nz (fun e => h0 ((asU64_zero _ b1 b2).1 e))
      have HE := Lib.hid e0
      clear h0 e0
      go_wp2_with fail
      go_region_held3 (fun w' => w'.cell? ⟨b, 0, none⟩ = some (.int .i64 p.total)) (first | go_keep | exact Kp.cell_of HK3.out (by assumption) (fun e => by simp at e; omega) | exact Kp.cell_of HKX.out (by assumption) (fun e => by cases e)) (first
        | (refine step_app rfl (.tmp 11) (.tmp 12) 24 rfl appB rfl (Own.nil_ _ w.heap.size 5) rfl (news := [.int .u8 8]) (Src.one (by simp)) (by intro u hu; simp at hu; subst hu; rfl) (fun e => by cases e) (by simp) (by simp) ?_
           intro v2 w2 h2 hk2 _
           have HO2 : Hid (Own w2 w.heap.size 5 v2 ([UInt8.ofNat 8].map u8v)) := Lib.hid h2
           have HKX := Lib.hid hk2
           clear h2 hk2)
        | (go_at_call 55
           refine (appendUvarint_any w.heap.size _ [UInt8.ofNat 8] (asU64 p.total) _ HO2.out (asU64_lt _) (by simp) (by have h9 := HKX.out.size; simp at h9; omega)).mono ?_
           rintro e w3 ⟨v3, rfl, ho3, hk3⟩
           have HO3 := Lib.hid ho3
           have HK3 := Lib.hid hk3
           clear ho3 hk3))
      all_goals
        go_wp2_with fail
        go_meet
        refine ⟨by rw [HE.out]; exact HO3.out, Kp.trans' (Kp.trans' (?_ : Keep w _) HKX.out (fun i hi e => by cases e)) HK3.out (fun i hi e => by omega)⟩
        repeat (first | exact Kp.refl _ _ | apply Kp.drew | apply Kp.drewN | apply Kp.alloc)
  case rest =>
    obtain ⟨hown, hkw⟩ := hcut
    have HO1 := Lib.hid hown
    have HKW := Lib.hid hkw
    have hbs := hkw.size
    have hc1 := hkw.cell_of HC1.out (fun x => x)
    obtain ⟨X1, hX1⟩ : ∃ X, X = fNum 8 (asU64 p.total) := ⟨_, rfl⟩
    rw [← hX1] at HO1 HML
    have HX1 := Lib.hid hX1
    have hx1l : X1.length ≤ 1099511626000 := by have := HML.out; omega
    clear hown hkw hX1
    go_upto_if 24 with fail
    go_cut [3] (fun v wc => Own wc w.heap.size 5 v ((X1 ++ fNum 16 (asU64 p.index)).map u8v) ∧ Keep w wc)
    case first =>
      by_cases h0 : p.index = 0
      · have hz : (p.index != 0) = false := by simp [h0]
        have e0 : fNum 16 (asU64 p.index) = [] := by rw [(asU64_zero _ b3 b4).2 h0]; exact fNum_z
        have HE := Lib.hid e0
        clear h0 e0
        go_wp2_with fail
        go_meet
        exact ⟨by rw [HE.out]; rw [List.append_nil]; exact HO1.out, HKW.out⟩
      · have hz : (p.index != 0) = true := by simp [h0]
        have e0 : fNum 16 (asU64 p.index) = UInt8.ofNat 16 :: uvar (asU64 p.index) := fNum_nz (fun e => h0 ((asU64_zero _ b3 b4).1 e))
        have HE := Lib.hid e0
        clear h0 e0
        go_wp2_with fail
        go_region_held3 (fun w' => w'.cell? ⟨b, 1, none⟩ = some (.int .i64 p.index)) (first | go_keep | exact Kp.cell_of HK3.out (by assumption) (fun e => by simp at e; omega) | exact Kp.cell_of HKX.out (by assumption) (fun e => by have h9 := (HO1.out.lt _ e.symm).1; simp at h9; omega)) (first
          | (refine step_app rfl (.tmp 25) (.tmp 26) 24 rfl appB rfl (by first | exact HO1.out.alloc _ | exact Own.drew (HO1.out.alloc _) | exact Own.drewN (HO1.out.alloc _) _) rfl (news := [.int .u8 16]) (Src.one (by simp)) (by intro u hu; simp at hu; subst hu; rfl) (fun e => by cases e) (by simp; omega) (by simp; omega) ?_
             intro v2 w2 h2 hk2 _
             have HO2 : Hid (Own w2 w.heap.size 5 v2 ((X1 ++ [UInt8.ofNat 16]).map u8v)) := Lib.hid (by rw [List.map_append]; exact h2)
             have HKX := Lib.hid hk2
             clear h2 hk2)
          | (go_at_call 55
             refine (appendUvarint_any w.heap.size _ (X1 ++ [UInt8.ofNat 16]) (asU64 p.index) _ HO2.out (asU64_lt _) (by simp; omega) (by have h9 := HKX.out.size; simp at h9; omega)).mono ?_
             rintro e w3 ⟨v3, rfl, ho3, hk3⟩
             have HO3 := Lib.hid ho3
             have HK3 := Lib.hid hk3
             clear ho3 hk3))
        all_goals
          go_wp2_with fail
          go_meet
          refine ⟨by rw [HE.out]; have h8 := HO3.out; rw [List.append_assoc] at h8; exact h8, Kp.trans' (Kp.trans' (?_ : Keep w _) HKX.out (fun i hi e => by have h9 := (HO1.out.lt _ e.symm).1; omega)) HK3.out (fun i hi e => by omega)⟩
          repeat (first | exact Kp.refl _ _ | exact HKW.out | apply Kp.drew | apply Kp.drewN | apply Kp.alloc)
    case rest =>
      clear HO1 HKW hbs hc1
      obtain ⟨hown, hkw⟩ := hcut
      have hbs := hkw.size
      obtain ⟨X2, hX2⟩ : ∃ X, X = X1 ++ fNum 16 (asU64 p.index) := ⟨_, rfl⟩
      rw [← hX2] at hown
      have HO1 := Lib.hid hown
      have HKW := Lib.hid hkw
      have hc2 := hkw.cell_of HC2.out (fun x => x)
      have HX2 := Lib.hid hX2
      have hx2l : X2.length = X1.length + (fNum 16 (asU64 p.index)).length := by rw [hX2, List.length_append]
      have HX2L := Lib.hid hx2l
      have hx2b : X2.length ≤ 1099511626000 := by have := HML.out; omega
      clear hown hkw hX2 hx2l
      go_upto_if 39 with fail
      go_cut [3] (fun v wc => Own wc w.heap.size 5 v ((X2 ++ (if p.leaf = [] then [] else fByt 26 p.leaf)).map u8v) ∧ Keep w wc)
      case first =>
        by_cases hlf : p.leaf.length = 0
        · have e0 : p.leaf = [] := List.eq_nil_of_length_eq_zero hlf
          have HE := Lib.hid e0
          have hz : ¬ 0 < p.leaf.length := by omega
          clear hlf e0
          go_wp2_with fail
          go_meet
          exact ⟨by rw [if_pos HE.out, List.append_nil]; exact HO1.out, HKW.out⟩
        · have hz : 0 < p.leaf.length := by omega
          have e0 : ¬ p.leaf = [] := fun e => by rw [e] at hlf; exact hlf rfl
          have HE := Lib.hid e0
          clear hlf e0
          go_wp2_with (go_at_call 42
                       refine (putBytes_any w.heap.size _ _ X2 p.leaf 3 _ HO1.out ((HLV.out.keep HKW.out).byp' w.heap.size (HLV.out) HKW.out) (by omega) (by omega) hl hbs).mono ?_
                       rintro e w3 ⟨v3, rfl, ho3, hk3⟩
                       have HO3 := Lib.hid ho3
                       have HK3 := Lib.hid hk3
                       clear ho3 hk3)
          go_meet
          exact ⟨by rw [if_neg HE.out]; exact HO3.out, HKW.out.trans' HK3.out (fun i hi e => by omega)⟩
      case rest =>
        clear HO1 HKW hbs hc2
        obtain ⟨hown, hkw⟩ := hcut
        have hbs := hkw.size
        obtain ⟨X3, hX3⟩ : ∃ X, X = X2 ++ (if p.leaf = [] then [] else fByt 26 p.leaf) := ⟨_, rfl⟩
        rw [← hX3] at hown
        have HO1 := Lib.hid hown
        have HKW := Lib.hid hkw
        have hc3 := hkw.cell_of HC3.out (fun x => x)
        have HX3 := Lib.hid hX3
        have hx3b : X3.length + (p.aunts.flatMap (fByt 34)).length ≤ 1099511626000 := by have h1 := HML.out; have h2 := HX2L.out; rw [hX3, List.length_append]; omega
        clear hown hkw hX3
        go_wp2_with fail
        go_loopw [3, 51] (fun v i wr => ∃ k : Nat, k ≤ p.aunts.length ∧ i = .int .i64 k ∧ Own wr w.heap.size 5 v ((X3 ++ (p.aunts.take k).flatMap (fByt 34)).map u8v) ∧ Keep w wr) (fun _ i _ => p.aunts.length - (intOf i).toNat)
        case atStart => exact ⟨0, Nat.zero_le _, rfl, by simpa using HO1.out, HKW.out⟩
        case round =>
          obtain ⟨k, hk, rfl, hown, hkr⟩ := hrel
          have HOW := Lib.hid hown
          have HKR := Lib.hid hkr
          have hbr := hkr.size
          have hft := flat_take_le p.aunts (fByt 34) k
          clear hown hkr HO1 HKW hc3 hbs
          by_cases hlt : k < p.aunts.length
          · obtain ⟨A1', c1', e1, f1, f2, f3, f4⟩ := HAV.out
            simp only [Value.slice.injEq] at e1
            obtain ⟨rfl, -, rfl⟩ := e1
            obtain ⟨ab, aoff, rfl, hcell⟩ := f4 (by omega)
            obtain ⟨u, hu, hub⟩ := hcell k hlt
            have hu2 := HKR.out.cell_of hu (fun x => x)
            have HUB := Lib.hid hub
            have HAK := Lib.hid (HA.out _ (List.getElem_mem hlt))
            have HFS := Lib.hid (flat_take_succ p.aunts (fByt 34) k hlt)
            clear hcell hub f1 f2 f3 f4
            go_wp2_with (go_at_call 42
                         refine (putBytes_any w.heap.size _ _ (X3 ++ (p.aunts.take k).flatMap (fByt 34)) p.aunts[k] 4 _ HOW.out ((HUB.out.keep HKR.out).byp' w.heap.size HUB.out HKR.out) (by omega) (by rw [List.length_append]; omega) HAK.out hbr).mono ?_
                         rintro e w3 ⟨v3, rfl, ho3, hk3⟩
                         have HO3 := Lib.hid ho3
                         have HK3 := Lib.hid hk3
                         clear ho3 hk3)
            go_roundw
            case rel => exact ⟨k + 1, by omega, by go_num, by rw [HFS.out, ← List.append_assoc]; exact HO3.out, HKR.out.trans' HK3.out (fun i hi e => by omega)⟩
            case measure => simp [intOf]; omega
          · obtain rfl : k = p.aunts.length := by omega
            obtain ⟨A9, c9, e9, _⟩ := HOW.out.form
            go_wp2_with fail
            go_ret
            refine ⟨_, rfl, ?_, HKR.out⟩
            have h1 := HOW.out
            rw [List.take_of_length_le (Nat.le_refl _), HX3.out, HX2.out, HX1.out] at h1
            rw [show msgOf p = fNum 8 (asU64 p.total) ++ fNum 16 (asU64 p.index) ++ (if p.leaf = [] then [] else fByt 26 p.leaf) ++ p.aunts.flatMap (fByt 34) by simp [msgOf]]
            exact h1
end Go.Proofs.YtfodkjpjejoemaaGreatDoor
