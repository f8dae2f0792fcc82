
/-
  Chains: what is used of a tree's proofs.
  Conditions: none (laws).
-/
import Derived.Test.YtfodkjpjejoemaaGreatDoorChain0
import Derived.Test.YtfodkjpjejoemaaGreatDoorZn
import Derived.Test.YtfodkjpjejoemaaGreatDoorChain15
import Derived.Test.YtfodkjpjejoemaaGreatDoorZs
import Derived.Test.YtfodkjpjejoemaaGreatDoorZi
namespace Go.Proofs.YtfodkjpjejoemaaGreatDoor
open Go Go.RowKit

theorem prfOf_ok (L : List (List UInt8)) (i : Nat) (hL : L.length ≤ 300) : prfOf L i = prfOf L i ∧ (prfOf L i).leaf.length = 32 ∧ (prfOf L i).aunts.length ≤ 100 ∧ ∀ a ∈ (prfOf L i).aunts, a.length = 32 :=
  ⟨rfl, leafS_length _, by have hc := auntsS_count 9 L i (by omega); exact Nat.le_trans hc (by omega), fun a ha => auntsS_32 L.length L i (Nat.le_refl _) a ha⟩
theorem prfOf_up (L : List (List UInt8)) (i : Nat) (hi : i < L.length) : climbP (prfOf L i) = some (rootS L) := by
  have hc := climb_aunts L.length L i (Nat.le_refl _) hi
  have hg : L.getD i [] = L[i] := by rw [List.getD_eq_getElem?_getD, List.getElem?_eq_getElem hi]; rfl
  unfold climbP prfOf
  simp only []
  rw [if_pos ⟨by omega, by omega⟩, hg]
  exact hc
theorem prfOf_valid2 (L : List (List UInt8)) (i : Nat) (hL : L.length ≤ 300) : valid (prfOf L i) = true := by
  have hc := auntsS_count 9 L i (by omega)
  have h32 := auntsS_32 L.length L i (Nat.le_refl _)
  have hl : (leafS (L.getD i [])).length = 32 := leafS_length _
  unfold valid prfOf
  simp only [hl]
  have h1 : decide ((0 : Int) ≤ ((L.length : Nat) : Int)) = true := decide_eq_true (by omega)
  have h2 : decide ((0 : Int) ≤ ((i : Nat) : Int)) = true := decide_eq_true (by omega)
  have h3 : decide ((auntsS L i).length ≤ 100) = true := decide_eq_true (by omega)
  have h4 : ((auntsS L i).all fun b => decide (b.length = 32)) = true := List.all_eq_true.2 fun b hb => decide_eq_true (h32 b hb)
  rw [h1, h2, h3, h4]
  rfl
theorem flat_le (L : List (List UInt8)) (h : ∀ a ∈ L, a.length = 32) : (L.flatMap (fByt 34)).length ≤ L.length * 43 := by
  induction L with
  | nil => simp
  | cons a r ih =>
    have h1 := ih fun x hx => h x (.tail _ hx)
    have h2 := h a (.head _)
    have h3 := uvar_ten a.length (by omega)
    rw [List.flatMap_cons, List.length_append, List.length_cons]
    have h4 : (fByt 34 a).length ≤ 43 := by unfold fByt; simp only [List.length_cons, List.length_append]; omega
    omega
theorem msgOf_small (p : Prf) (hl : p.leaf.length = 32) (ha : ∀ a ∈ p.aunts, a.length = 32) (hn : p.aunts.length ≤ 100) : (msgOf p).length ≤ 4294967296 := by
  have h1 := flat_le p.aunts ha
  have h2 := uvar_ten _ (asU64_lt p.total)
  have h3 := uvar_ten _ (asU64_lt p.index)
  have h4 := uvar_ten p.leaf.length (by omega)
  have f1 : (fNum 8 (asU64 p.total)).length ≤ 11 := by unfold fNum; split <;> simp; omega
  have f2 : (fNum 16 (asU64 p.index)).length ≤ 11 := by unfold fNum; split <;> simp; omega
  have f3 : (if p.leaf = [] then [] else fByt 26 p.leaf).length ≤ 43 := by
    split
    · simp
    · unfold fByt; simp only [List.length_cons, List.length_append]; omega
  unfold msgOf
  simp only [List.length_append]
  have : p.aunts.length * 43 ≤ 100 * 43 := Nat.mul_le_mul_right _ hn
  omega
theorem opn_ok (M : List (List UInt8)) (a : Nat) (k : List UInt8) (ha : a < M.length) (hM : M.length ≤ 6) (hk0 : 0 < k.length) (hkl : k.length ≤ 2000) : OpnOk ⟨k, prfOf M a, rootS M⟩ := by
  obtain ⟨-, h1, h2, h3⟩ := prfOf_ok M a (by omega)
  exact {
    k0 := hk0
    kl := by show k.length ≤ _; omega
    sm := ⟨by show (prfOf M a).leaf.length ≤ _; omega, fun x hx => by have := h3 x hx; omega, msgOf_small _ h1 h3 h2⟩
    num := ⟨by show (-9223372036854775808 : Int) ≤ ((M.length : Nat) : Int); omega, by show ((M.length : Nat) : Int) ≤ _; omega, by show (-9223372036854775808 : Int) ≤ ((a : Nat) : Int); omega, by show ((a : Nat) : Int) ≤ _; omega, by show (prfOf M a).aunts.length ≤ _; omega⟩
    ok := prfOf_valid2 M a (by omega)
    up := prfOf_up M a ha
    rl := by show (rootS M).length ≤ _; rw [rootS_length]; omega }
end Go.Proofs.YtfodkjpjejoemaaGreatDoor
