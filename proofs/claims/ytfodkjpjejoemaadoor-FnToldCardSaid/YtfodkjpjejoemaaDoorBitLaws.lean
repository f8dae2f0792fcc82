/-
  Plain laws on words of 64 bits: a bit that is asked, set or taken away, in the model's own spelling; a list of words as bits.
  Conditions: none.
-/
import Derived.WalkKit
import Derived.Laws.BitsAllLaws
import Derived.Laws.BitsLemmas
namespace Go.Proofs.YtfodkjpjejoemaaDoor
open Go

theorem wrap_bit (k : Nat) (hk : k < 64) : IntKind.u64.wrap (2 ^ k) = ((2 ^ k : Nat) : Int) := by
  have h : 2 ^ k < 18446744073709551616 := by
    have : 2 ^ k < 2 ^ 64 := Nat.pow_lt_pow_right (by omega) hk
    simpa using this
  have e : ((2 : Int) ^ k) = ((2 ^ k : Nat) : Int) := by simp
  rw [e]
  generalize 2 ^ k = m at h ⊢
  simp [IntKind.wrap, IntKind.bits, IntKind.signed]
  omega

theorem and_bit_pos (x k : Nat) (hx : x < 2 ^ 64) (hk : k < 64) : decide (0 < bits .and .u64 (x : Int) (IntKind.u64.wrap (2 ^ k))) = x.testBit k := by
  have h : 2 ^ k < 2 ^ 64 := Nat.pow_lt_pow_right (by omega) hk
  rw [wrap_bit k hk, u64_and_nat x (2 ^ k) (by simpa using hx) (by simpa using h), nat_bit]
  have e : x.testBit k = decide (x / 2 ^ k % 2 = 1) := Nat.testBit_eq_decide_div_mod_eq
  rw [e]
  have hp : 0 < 2 ^ k := Nat.pow_pos (by omega)
  rcases Nat.mod_two_eq_zero_or_one (x / 2 ^ k) with h0 | h0 <;> rw [h0] <;> simp
  exact_mod_cast hp

theorem or_bit_nat (x k : Nat) (hx : x < 2 ^ 64) (hk : k < 64) : bits .or .u64 (x : Int) (IntKind.u64.wrap (2 ^ k)) = ((x ||| 2 ^ k : Nat) : Int) := by
  have h : 2 ^ k < 2 ^ 64 := Nat.pow_lt_pow_right (by omega) hk
  rw [wrap_bit k hk, u64_or_nat x (2 ^ k) (by simpa using hx) (by simpa using h)]

theorem xor_max_nat (m : Nat) (h : m < 2 ^ 64) : (2 ^ 64 - 1) ^^^ m = 2 ^ 64 - 1 - m := by
  have e : 2 ^ 64 - 1 - m = 2 ^ 64 - (m + 1) := by omega
  rw [e]
  apply Nat.eq_of_testBit_eq
  intro i
  rw [Nat.testBit_xor, Nat.testBit_two_pow_sub_one, Nat.testBit_two_pow_sub_succ h]
  by_cases hi : i < 64
  · simp [hi]
  · have : m.testBit i = false := Nat.testBit_lt_two_pow (Nat.lt_of_lt_of_le h (Nat.pow_le_pow_right (by omega) (by omega)))
    simp [hi, this]
theorem u64_max : IntKind.u64.max = ((2 ^ 64 - 1 : Nat) : Int) := by decide
/-- ^x on a word -/
theorem not_word (m : Nat) (h : m < 2 ^ 64) : bits .xor .u64 IntKind.u64.max (m : Int) = ((2 ^ 64 - 1 - m : Nat) : Int) := by
  rw [u64_max, u64_xor_nat (2 ^ 64 - 1) m (by decide) (by simpa using h), xor_max_nat m h]
theorem clear_bit_nat (x k : Nat) (hx : x < 2 ^ 64) (hk : k < 64) : bits .and .u64 (x : Int) (bits .xor .u64 IntKind.u64.max (IntKind.u64.wrap (2 ^ k))) = ((x &&& (2 ^ 64 - 1 - 2 ^ k) : Nat) : Int) := by
  have h : 2 ^ k < 2 ^ 64 := Nat.pow_lt_pow_right (by omega) hk
  rw [wrap_bit k hk, not_word _ h, u64_and_nat x (2 ^ 64 - 1 - 2 ^ k) (by simpa using hx) (by generalize 2 ^ k = m; omega)]

/-- the words of an array as bits -/
def bitAt (ws : List Nat) (i : Nat) : Bool := (ws.getD (i / 64) 0).testBit (i % 64)
def setBit (ws : List Nat) (i : Nat) : List Nat := ws.set (i / 64) (ws.getD (i / 64) 0 ||| 2 ^ (i % 64))
def clrBit (ws : List Nat) (i : Nat) : List Nat := ws.set (i / 64) (ws.getD (i / 64) 0 &&& (2 ^ 64 - 1 - 2 ^ (i % 64)))

theorem getD_set_eq {ws : List Nat} {j : Nat} (x : Nat) (h : j < ws.length) : (ws.set j x).getD j 0 = x := by
  simp [List.getD, h]
theorem getD_set_ne' {ws : List Nat} {j l : Nat} (x : Nat) (h : j ≠ l) : (ws.set j x).getD l 0 = ws.getD l 0 := by
  simp [List.getD, List.getElem?_set_ne h]

theorem div_mod_ne {i j : Nat} (h : i / 64 = j / 64) (h' : i % 64 = j % 64) : i = j := by omega

theorem bitAt_setBit (ws : List Nat) (i j : Nat) (h : i / 64 < ws.length) : bitAt (setBit ws i) j = (decide (j = i) || bitAt ws j) := by
  unfold bitAt setBit
  by_cases e : i / 64 = j / 64
  · rw [← e, getD_set_eq _ h, Nat.testBit_or, Nat.testBit_two_pow]
    by_cases e2 : j = i
    · subst e2; simp
    · have : i % 64 ≠ j % 64 := fun h' => e2 (div_mod_ne e h').symm
      simp [e2, this]
  · rw [getD_set_ne' _ e]
    have : j ≠ i := fun e' => e (by rw [e'])
    simp [this]

theorem testBit_mask (k l : Nat) (hk : k < 64) (hl : l < 64) : (2 ^ 64 - 1 - 2 ^ k).testBit l = decide (l ≠ k) := by
  have e : 2 ^ 64 - 1 - 2 ^ k = 2 ^ 64 - (2 ^ k + 1) := by omega
  rw [e, Nat.testBit_two_pow_sub_succ (Nat.pow_lt_pow_right (by omega) hk), Nat.testBit_two_pow]
  simp [hl, eq_comm]

theorem bitAt_clrBit (ws : List Nat) (i j : Nat) (h : i / 64 < ws.length) : bitAt (clrBit ws i) j = (decide (j ≠ i) && bitAt ws j) := by
  unfold bitAt clrBit
  by_cases e : i / 64 = j / 64
  · rw [← e, getD_set_eq _ h, Nat.testBit_and, testBit_mask _ _ (by omega) (by omega)]
    by_cases e2 : j = i
    · subst e2; simp
    · have : j % 64 ≠ i % 64 := fun h' => e2 (div_mod_ne e h'.symm).symm
      simp [e2, this]
  · rw [getD_set_ne' _ e]
    have : j ≠ i := fun e' => e (by rw [e'])
    simp [this]

theorem getD_lt (ws : List Nat) (j : Nat) (h : ∀ x ∈ ws, x < 2 ^ 64) : ws.getD j 0 < 2 ^ 64 := by
  unfold List.getD
  cases hj : ws[j]? with
  | none => simp
  | some x => exact h x (List.mem_of_getElem? hj)

theorem small_set {ws : List Nat} {j x : Nat} (h : ∀ x ∈ ws, x < 2 ^ 64) (hx : x < 2 ^ 64) : ∀ y ∈ ws.set j x, y < 2 ^ 64 := by
  intro y hy
  rcases List.mem_or_eq_of_mem_set hy with h' | h'
  · exact h y h'
  · rw [h']; exact hx

theorem setBit_small {ws : List Nat} {i : Nat} (h : ∀ x ∈ ws, x < 2 ^ 64) : ∀ y ∈ setBit ws i, y < 2 ^ 64 :=
  small_set h (Nat.or_lt_two_pow (getD_lt ws _ h) (Nat.pow_lt_pow_right (by omega) (by omega)))
theorem clrBit_small {ws : List Nat} {i : Nat} (h : ∀ x ∈ ws, x < 2 ^ 64) : ∀ y ∈ clrBit ws i, y < 2 ^ 64 :=
  small_set h (Nat.lt_of_le_of_lt Nat.and_le_left (getD_lt ws _ h))
theorem setBit_length (ws : List Nat) (i : Nat) : (setBit ws i).length = ws.length := by simp [setBit]
theorem clrBit_length (ws : List Nat) (i : Nat) : (clrBit ws i).length = ws.length := by simp [clrBit]
end Go.Proofs.YtfodkjpjejoemaaDoor
