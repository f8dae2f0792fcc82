/-
  Messages of protocol buffers in plain Lean: numbers of seven bits a byte, fields.
  Conditions: none (laws).
-/
import Derived.Test.YtfodkjpjejoemaaDoorValid3
import Derived.Test.YtfodkjpjejoemaaDoorSlc
import Derived.Test.YtfodkjpjejoemaaDoorSha0
import Derived.Laws.BitsAllLaws
namespace Go.Proofs.YtfodkjpjejoemaaDoor
open Go Go.RowKit

/-- bytes that stay as they are whatever is written into S -/
def Byp (w : World) (S : Nat → Prop) (v : Value) (L : List UInt8) : Prop := ∀ wx, Kp S w wx → Byts wx v L
theorem Byp.at_ {w : World} {S : Nat → Prop} {v : Value} {L : List UInt8} (h : Byp w S v L) : Byts w v L := h w (Kp.refl _ _)
theorem Byp.later {w w' : World} {S : Nat → Prop} {v : Value} {L : List UInt8} (h : Byp w S v L) (k : Kp S w w') : Byp w' S v L := fun wx kx => h wx (k.trans kx)
/-- what was there stays where only new blocks are written -/
theorem Byts.byp {w : World} {v : Value} {L : List UInt8} (h : Byts w v L) (B : Nat) (hB : w.heap.size ≤ B) : Byp w (fun i => B ≤ i) v L := fun wx kx => by
  obtain ⟨A, c, hv, h1, h2, h3, h4⟩ := h
  refine ⟨A, c, hv, h1, h2, h3, fun hn => ?_⟩
  obtain ⟨b', off, hA, hc⟩ := h4 hn
  refine ⟨b', off, hA, fun i hi => ?_⟩
  obtain ⟨u, hu, hr⟩ := hc i hi
  exact ⟨u, kx.cell_of hu (fun e => by have := World.block_lt_of_cell? w _ hu; simp at e this; omega), hr⟩

/-- seven bits a byte, the lowest ones first -/
def uvar (n : Nat) : List UInt8 := if n < 128 then [UInt8.ofNat n] else UInt8.ofNat (n % 128 + 128) :: uvar (n / 128)
termination_by n
decreasing_by omega
theorem uvar_small {n : Nat} (h : n < 128) : uvar n = [UInt8.ofNat n] := by rw [uvar, if_pos h]
theorem uvar_big {n : Nat} (h : ¬ n < 128) : uvar n = UInt8.ofNat (n % 128 + 128) :: uvar (n / 128) := by rw [uvar, if_neg h]
theorem uvar_length_le : ∀ (k n : Nat), 0 < k → n < 128 ^ k → (uvar n).length ≤ k := by
  intro k
  induction k with
  | zero => intro n h; omega
  | succ k ih =>
    intro n _ hn
    by_cases h : n < 128
    · rw [uvar_small h]; simp
    · rw [uvar_big h, List.length_cons]
      have hk : 0 < k := by
        rcases Nat.eq_zero_or_pos k with h0 | h0
        · subst h0; simp at hn; omega
        · exact h0
      have : n / 128 < 128 ^ k := by rw [Nat.pow_succ] at hn; exact Nat.div_lt_of_lt_mul (by rw [Nat.mul_comm]; exact hn)
      have := ih (n / 128) hk this
      omega
theorem uvar_ten (n : Nat) (h : n < 18446744073709551616) : (uvar n).length ≤ 10 :=
  uvar_length_le 10 n (by decide) (Nat.lt_of_lt_of_le h (by decide))
theorem uvar_pos (n : Nat) : 0 < (uvar n).length := by
  by_cases h : n < 128
  · rw [uvar_small h]; simp
  · rw [uvar_big h]; simp

theorem or_128 (x : Nat) (h : x < 256) : x ||| 128 = x % 128 + 128 := by
  have : ∀ y : Fin 256, y.val ||| 128 = y.val % 128 + 128 := by decide +kernel
  exact this ⟨x, h⟩
theorem u8_or_128 (m : Nat) : bits .or .u8 ((m : Int) % 256) 128 = ((m % 128 + 128 : Nat) : Int) := by
  have e : (m : Int) % 256 = ((m % 256 : Nat) : Int) := by omega
  rw [e, show (128 : Int) = ((128 : Nat) : Int) from rfl, u8_or_nat _ _ (by omega) (by omega), or_128 _ (by omega)]
  omega
theorem u8v_of {n : Int} {x : Nat} (hx : x < 256) (h : n = (x : Int)) : Value.int .u8 n = u8v (UInt8.ofNat x) := by
  subst h; simp [UInt8.toNat_ofNat', Nat.mod_eq_of_lt hx]

/-- a field of a number, of bytes -/
def fNum (tag n : Nat) : List UInt8 := if n = 0 then [] else UInt8.ofNat tag :: uvar n
def fByt (tag : Nat) (b : List UInt8) : List UInt8 := UInt8.ofNat tag :: (uvar b.length ++ b)
/-- an int64 as a word -/
def asU64 (z : Int) : Nat := (z % 18446744073709551616).toNat
theorem asU64_lt (z : Int) : asU64 z < 18446744073709551616 := by unfold asU64; omega
theorem asU64_zero (z : Int) (h1 : -9223372036854775808 ≤ z) (h2 : z ≤ 9223372036854775807) : asU64 z = 0 ↔ z = 0 := by unfold asU64; omega
def msgOf (p : Prf) : List UInt8 :=
  fNum 8 (asU64 p.total) ++ (fNum 16 (asU64 p.index) ++ ((if p.leaf = [] then [] else fByt 26 p.leaf) ++ p.aunts.flatMap (fByt 34)))
end Go.Proofs.YtfodkjpjejoemaaDoor
