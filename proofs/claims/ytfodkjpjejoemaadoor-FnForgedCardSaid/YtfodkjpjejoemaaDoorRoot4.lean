/-
  Roots of trees: the package's split.
  Conditions: the number is at least 2 and bounded.
-/
import Derived.Test.YtfodkjpjejoemaaDoorRoot3
import Derived.Test.YtfodkjpjejoemaaDoorShelf
namespace Go.Proofs.YtfodkjpjejoemaaDoor
open Go Go.RowKit
attribute [local go_sem ↓] Go.wp_at_zero Go.wp_at_succ

theorem bitLenAux_zero (f : Nat) : Lib.bitLenAux f 0 = 0 := by
  cases f with
  | zero => rfl
  | succ f => simp [Lib.bitLenAux]
theorem bitLenAux_log : ∀ (f x : Nat), 0 < x → x < 2 ^ f → Lib.bitLenAux f x = Nat.log2 x + 1
  | 0, x, h, h2 => by simp at h2; omega
  | f + 1, x, h, h2 => by
    rw [Lib.bitLenAux, if_neg (by omega), Nat.log2_def]
    by_cases hx : 2 ≤ x
    · rw [if_pos hx, bitLenAux_log f (x / 2) (by omega) (by rw [Nat.pow_succ] at h2; omega)]
      omega
    · have : x / 2 = 0 := by omega
      rw [if_neg hx, this, bitLenAux_zero]

set_option maxHeartbeats 1000000 in
theorem split_any (n : Nat) (w : World) (h2 : 2 ≤ n) (h : n ≤ 9223372036854775807) :
    Calls Tryd.prog 95 #[.int .i64 n] w fun e w' => e = .returned (.int .i64 (splt n)) ∧ w = w' := by
  obtain ⟨j, hj⟩ : ∃ j, j = Nat.log2 n := ⟨_, rfl⟩
  have hl := (Nat.log2_eq_iff (n := n) (k := j) (by omega)).1 hj.symm
  rw [Nat.pow_succ] at hl
  have hj62 : j < 63 := by
    rcases Nat.lt_or_ge j 63 with h' | h'
    · exact h'
    · have := Nat.pow_le_pow_right (show 0 < 2 by omega) h'
      omega
  have hbl : Lib.bitLen n = j + 1 := by
    unfold Lib.bitLen
    rw [bitLenAux_log 64 n (by omega) (by omega), hj]
  have hsp : splt n = if 2 ^ j = n then 2 ^ j / 2 else 2 ^ j := by
    split
    · rename_i he
      obtain ⟨i, rfl⟩ : ∃ i, j = i + 1 := ⟨j - 1, by
        rcases j with _ | j
        · simp at he; omega
        · rfl⟩
      rw [Nat.pow_succ] at he hl ⊢
      rw [splt_of n i (by have := Nat.pow_pos (n := i) (show 0 < 2 by omega); omega) (by omega)]
      omega
    · exact splt_of n j (by omega) (by omega)
  obtain ⟨P, hP⟩ : ∃ P, P = 2 ^ j := ⟨_, rfl⟩
  rw [← hP] at hl hsp
  have hpi : (2 : Int) ^ j = (P : Int) := by rw [hP]; simp
  have hsh1 : IntKind.i64.wrap ((2 : Int) ^ j) = (P : Int) := by rw [hpi]; simp [IntKind.wrap, IntKind.bits, IntKind.signed]; omega
  have HBL := Lib.hid hbl
  have HSP := Lib.hid hsp
  have h1 : ¬ (n : Int) < 1 := by omega
  clear hbl hj hP hsp hpi
  by_cases he : P = n
  · have he' : ((P : Int) == (n : Int)) = true := by rw [beq_iff_eq]; omega
    have hr := HSP.out
    rw [if_pos he] at hr
    have HR := Lib.hid hr
    clear hr he
    go_enter Tryd.func95, Tryd.ntmps95
    go_wp2_with (go_at_call 125
                 refine (Tryd.bits_Len n _ (by omega) (by omega)).mono ?_
                 rintro e w1 ⟨rfl, rfl⟩
                 rw [Int.toNat_natCast, HBL.out])
    go_ret
    exact ⟨by rw [HR.out]; first | rfl | go_num, rfl⟩
  · have he' : ((P : Int) == (n : Int)) = false := by rw [beq_eq_false_iff_ne]; omega
    have hr := HSP.out
    rw [if_neg he] at hr
    have HR := Lib.hid hr
    clear hr he
    go_enter Tryd.func95, Tryd.ntmps95
    go_wp2_with (go_at_call 125
                 refine (Tryd.bits_Len n _ (by omega) (by omega)).mono ?_
                 rintro e w1 ⟨rfl, rfl⟩
                 rw [Int.toNat_natCast, HBL.out])
    go_ret
    exact ⟨by rw [HR.out]; first | rfl | go_num, rfl⟩

theorem iSplit_any (n : Nat) (w : World) (h2 : 2 ≤ n) (h : n ≤ 9223372036854775807) :
    Calls Tryd.prog 30 #[.int .i64 n] w fun e w' => e = .returned (.int .i64 (splt n)) ∧ w = w' := by
  have hb := splt_lt n h2
  have HSP := Lib.hid (fun (wx : World) => split_any n wx h2 h)
  obtain ⟨q, hq⟩ : ∃ q, q = splt n := ⟨_, rfl⟩
  rw [← hq] at HSP hb ⊢
  clear hq
  go_enter Tryd.func30, Tryd.ntmps30
  go_wp2_with (first
    | (go_at_call 95
       refine (HSP.out _).mono ?_
       rintro e w1 ⟨rfl, rfl⟩)
    | go_in)
  go_ret
  exact ⟨rfl, rfl⟩
end Go.Proofs.YtfodkjpjejoemaaDoor
