/-
  Trees in plain Lean: a tree over a list, divided at the greatest power of two below, is what pairing level by level gives.
  Conditions: none (definitions, and laws on them).
-/
import Derived.WalkKit
namespace Go.Proofs.YtfodkjpjejoemaaDoor
open Go

/-- the greatest power of two below n -/
def splt (n : Nat) : Nat := 2 ^ Nat.log2 (n - 1)
theorem splt_of (n j : Nat) (h1 : 2 ^ j < n) (h2 : n ≤ 2 * 2 ^ j) : splt n = 2 ^ j := by
  have h0 := Nat.pow_pos (n := j) (show 0 < 2 by omega)
  unfold splt
  rw [(Nat.log2_eq_iff (n := n - 1) (k := j) (by omega)).2 ⟨by omega, by rw [Nat.pow_succ]; omega⟩]
theorem splt_is (n : Nat) (h : 2 ≤ n) : ∃ j, splt n = 2 ^ j ∧ 2 ^ j < n ∧ n ≤ 2 * 2 ^ j := by
  have h1 := (Nat.log2_eq_iff (n := n - 1) (k := Nat.log2 (n - 1)) (by omega)).1 rfl
  exact ⟨_, rfl, by omega, by rw [Nat.pow_succ] at h1; omega⟩
theorem splt_lt (n : Nat) (h : 2 ≤ n) : 0 < splt n ∧ splt n < n := by
  obtain ⟨j, e, h1, h2⟩ := splt_is n h
  rw [e]
  exact ⟨Nat.pow_pos (by omega), h1⟩

section
variable {α : Type} (g : α → α → α) (d : α)
def treeF : Nat → List α → α
  | 0, _ => d
  | f + 1, L => if L.length ≤ 1 then L.headD d else g (treeF f (L.take (splt L.length))) (treeF f (L.drop (splt L.length)))
theorem treeF_enough : ∀ (f h : Nat) (L : List α), L.length ≤ f → L.length ≤ h → treeF g d f L = treeF g d h L
  | 0, 0, L, _, _ => rfl
  | 0, h + 1, L, hf, _ => by
    obtain rfl : L = [] := List.eq_nil_of_length_eq_zero (by omega)
    simp [treeF]
  | f + 1, 0, L, _, hh => by
    obtain rfl : L = [] := List.eq_nil_of_length_eq_zero (by omega)
    simp [treeF]
  | f + 1, h + 1, L, hf, hh => by
    simp only [treeF]
    by_cases h1 : L.length ≤ 1
    · rw [if_pos h1, if_pos h1]
    · rw [if_neg h1, if_neg h1]
      have hs := splt_lt L.length (by omega)
      rw [treeF_enough f h (L.take (splt L.length)) (by simp; omega) (by simp; omega), treeF_enough f h (L.drop (splt L.length)) (by simp; omega) (by simp; omega)]
/-- the tree's root; d where there is no leaf -/
def tree (L : List α) : α := treeF g d L.length L
theorem tree_nil : tree g d [] = d := rfl
theorem tree_one (a : α) : tree g d [a] = a := rfl
theorem tree_more (L : List α) (h : 2 ≤ L.length) : tree g d L = g (tree g d (L.take (splt L.length))) (tree g d (L.drop (splt L.length))) := by
  have hs := splt_lt L.length h
  obtain ⟨n, hn⟩ : ∃ n, L.length = n + 1 := ⟨L.length - 1, by omega⟩
  have e : tree g d L = treeF g d (n + 1) L := by unfold tree; rw [hn]
  rw [e]
  simp only [treeF]
  rw [if_neg (by omega)]
  rw [treeF_enough g d n (L.take (splt L.length)).length _ (by simp; omega) (Nat.le_refl _), treeF_enough g d n (L.drop (splt L.length)).length _ (by simp; omega) (Nat.le_refl _)]
  rfl
/-- one level up: two and two joined, an odd last one carried -/
def lvl : List α → List α
  | a :: b :: t => g a b :: lvl t
  | [a] => [a]
  | [] => []
theorem lvl_nil : lvl g [] = [] := rfl
theorem lvl_one (a : α) : lvl g [a] = [a] := rfl
theorem lvl_two (a b : α) (t : List α) : lvl g (a :: b :: t) = g a b :: lvl g t := rfl
theorem lvl_length : ∀ (L : List α), (lvl g L).length = (L.length + 1) / 2
  | [] => by rw [lvl_nil]; simp
  | [a] => by rw [lvl_one]; simp
  | a :: b :: t => by rw [lvl_two, List.length_cons, lvl_length t]; simp; omega
theorem lvl_append : ∀ (L M : List α), L.length % 2 = 0 → lvl g (L ++ M) = lvl g L ++ lvl g M
  | [], M, _ => rfl
  | [a], M, h => by simp at h
  | a :: b :: t, M, h => by
    rw [List.cons_append, List.cons_append, lvl_two, lvl_two, lvl_append t M (by simp at h; omega)]
    rfl
theorem tree_lvl : ∀ (n : Nat) (L : List α), L.length ≤ n → tree g d (lvl g L) = tree g d L := by
  intro n
  induction n with
  | zero =>
    intro L h
    obtain rfl : L = [] := List.eq_nil_of_length_eq_zero (by omega)
    rfl
  | succ n ih =>
    intro L h
    match L, h with
    | [], _ => rfl
    | [a], _ => rfl
    | [a, b], _ => rfl
    | a :: b :: c :: t, h =>
      obtain ⟨M, hM⟩ : ∃ M, M = a :: b :: c :: t := ⟨_, rfl⟩
      rw [← hM] at h ⊢
      have h3 : 3 ≤ M.length := by rw [hM]; simp
      obtain ⟨j, e, h1, h2⟩ := splt_is M.length (by omega)
      obtain ⟨i, rfl⟩ : ∃ i, j = i + 1 := ⟨j - 1, by
        rcases j with _ | j
        · simp at h2; omega
        · rfl⟩
      obtain ⟨K, hK⟩ : ∃ K, K = 2 ^ i := ⟨_, rfl⟩
      have hKp : 0 < K := by rw [hK]; exact Nat.pow_pos (by omega)
      have e2 : (2 : Nat) ^ (i + 1) = 2 * K := by rw [Nat.pow_succ, hK]; omega
      rw [e2] at e h1 h2
      have hl1 : (M.take (2 * K)).length = 2 * K := by rw [List.length_take]; omega
      have hl2 : (M.drop (2 * K)).length = M.length - 2 * K := by rw [List.length_drop]
      have ea : lvl g M = lvl g (M.take (2 * K)) ++ lvl g (M.drop (2 * K)) := by
        rw [← lvl_append g _ _ (by rw [hl1]; omega), List.take_append_drop]
      have hll1 : (lvl g (M.take (2 * K))).length = K := by rw [lvl_length, hl1]; omega
      have hll := lvl_length g M
      have es : splt (lvl g M).length = K := by
        rw [hK]
        apply splt_of
        · rw [← hK, hll]; omega
        · rw [← hK, hll]; omega
      rw [tree_more g d (lvl g M) (by rw [hll]; omega), tree_more g d M (by omega), es, e]
      rw [ea]
      rw [List.take_append_of_le_length (by omega), List.take_of_length_le (by omega), List.drop_append_of_le_length (by omega), List.drop_of_length_le (by omega), List.nil_append]
      rw [ih (M.take (2 * K)) (by rw [hl1]; omega), ih (M.drop (2 * K)) (by rw [hl2]; omega)]
end
end Go.Proofs.YtfodkjpjejoemaaDoor
