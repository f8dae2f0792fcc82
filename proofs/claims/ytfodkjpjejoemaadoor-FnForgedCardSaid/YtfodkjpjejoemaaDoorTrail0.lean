/-
  Proofs of a tree's leaves: the sums beside each way in plain Lean; nodes in memory, and the way from a leaf's node to the root's.
  Conditions: none (definitions, and laws on them).
-/
import Derived.Test.YtfodkjpjejoemaaDoorClimb4
namespace Go.Proofs.YtfodkjpjejoemaaDoor
open Go Go.RowKit

/-- the sums beside the way of leaf i, the lowest one first -/
def auntsF : Nat → List (List UInt8) → Nat → List (List UInt8)
  | 0, _, _ => []
  | f + 1, L, i => if L.length ≤ 1 then [] else if i < splt L.length then auntsF f (L.take (splt L.length)) i ++ [rootS (L.drop (splt L.length))] else auntsF f (L.drop (splt L.length)) (i - splt L.length) ++ [rootS (L.take (splt L.length))]
theorem auntsF_enough : ∀ (f h : Nat) (L : List (List UInt8)) (i : Nat), L.length ≤ f → L.length ≤ h → auntsF f L i = auntsF h L i
  | 0, 0, _, _, _, _ => rfl
  | 0, h + 1, L, i, hf, _ => by simp only [auntsF]; rw [if_pos (by omega)]
  | f + 1, 0, L, i, _, hh => by simp only [auntsF]; rw [if_pos (by omega)]
  | f + 1, h + 1, L, i, hf, hh => by
    simp only [auntsF]
    by_cases h1 : L.length ≤ 1
    · rw [if_pos h1, if_pos h1]
    · have hs := splt_lt L.length (by omega)
      rw [if_neg h1, if_neg h1, auntsF_enough f h (L.take (splt L.length)) i (by simp; omega) (by simp; omega), auntsF_enough f h (L.drop (splt L.length)) (i - splt L.length) (by simp; omega) (by simp; omega)]
def auntsS (L : List (List UInt8)) (i : Nat) : List (List UInt8) := auntsF L.length L i
theorem auntsS_one (L : List (List UInt8)) (i : Nat) (h : L.length ≤ 1) : auntsS L i = [] := by
  unfold auntsS
  cases L.length with
  | zero => rfl
  | succ n => simp only [auntsF]; rw [if_pos h]
theorem auntsS_more (L : List (List UInt8)) (i : Nat) (h : 2 ≤ L.length) : auntsS L i = if i < splt L.length then auntsS (L.take (splt L.length)) i ++ [rootS (L.drop (splt L.length))] else auntsS (L.drop (splt L.length)) (i - splt L.length) ++ [rootS (L.take (splt L.length))] := by
  have hs := splt_lt L.length h
  obtain ⟨n, hn⟩ : ∃ n, L.length = n + 1 := ⟨L.length - 1, by omega⟩
  have e : auntsS L i = auntsF (n + 1) L i := by unfold auntsS; rw [hn]
  rw [e]
  simp only [auntsF]
  rw [if_neg (by omega)]
  rw [auntsF_enough n (L.take (splt L.length)).length _ i (by simp; omega) (Nat.le_refl _), auntsF_enough n (L.drop (splt L.length)).length _ (i - splt L.length) (by simp; omega) (Nat.le_refl _)]
  rfl
/-- each leaf leads to the root -/
theorem climb_aunts : ∀ (n : Nat) (L : List (List UInt8)) (i : Nat) (_ : L.length ≤ n) (h : i < L.length), climbS (leafS L[i]) (auntsS L i) L.length i = some (rootS L) := by
  intro n
  induction n with
  | zero => intro L i hn h; omega
  | succ n ih =>
    intro L i hn h
    by_cases h1 : L.length ≤ 1
    · have hl : L.length = 1 := by omega
      match L, hl with
      | [b], _ =>
        have hi : i = 0 := by simpa using h
        subst hi
        rw [auntsS_one _ _ (by simp)]
        show climbS (leafS b) [] 1 0 = _
        rw [climbS_one]; rfl
    · have hs := splt_lt L.length (by omega)
      have hr := rootS_more L (by omega)
      have ha := auntsS_more L i (by omega)
      have hlt : (L.take (splt L.length)).length = splt L.length := by rw [List.length_take]; omega
      have hld : (L.drop (splt L.length)).length = L.length - splt L.length := List.length_drop
      by_cases hik : i < splt L.length
      · rw [if_pos hik] at ha
        have hm : (auntsS L i).length = (auntsS (L.take (splt L.length)) i).length + 1 := by rw [ha]; simp
        rw [climbS_last _ _ _ _ (by omega) _ hm, if_pos hik]
        have e1 : (auntsS L i).take (auntsS (L.take (splt L.length)) i).length = auntsS (L.take (splt L.length)) i := by rw [ha, List.take_left]
        have e2 : (auntsS L i)[(auntsS (L.take (splt L.length)) i).length]'(by omega) = rootS (L.drop (splt L.length)) := by
          simp only [ha]; simp
        have h3 := ih (L.take (splt L.length)) i (by omega) (by omega)
        have e3 : (L.take (splt L.length))[i]'(by omega) = L[i] := by simp
        rw [e3, hlt] at h3
        rw [e1, h3, e2, hr]; rfl
      · rw [if_neg hik] at ha
        have hm : (auntsS L i).length = (auntsS (L.drop (splt L.length)) (i - splt L.length)).length + 1 := by rw [ha]; simp
        rw [climbS_last _ _ _ _ (by omega) _ hm, if_neg hik]
        have e1 : (auntsS L i).take (auntsS (L.drop (splt L.length)) (i - splt L.length)).length = auntsS (L.drop (splt L.length)) (i - splt L.length) := by rw [ha, List.take_left]
        have e2 : (auntsS L i)[(auntsS (L.drop (splt L.length)) (i - splt L.length)).length]'(by omega) = rootS (L.take (splt L.length)) := by
          simp only [ha]; simp
        have h3 := ih (L.drop (splt L.length)) (i - splt L.length) (by omega) (by omega)
        have e3 : (L.drop (splt L.length))[i - splt L.length]'(by omega) = L[i] := by
          rw [List.getElem_drop]; congr 1; omega
        rw [e3, hld] at h3
        rw [e1, h3, e2, hr]; rfl
theorem auntsS_32 : ∀ (n : Nat) (L : List (List UInt8)) (i : Nat), L.length ≤ n → ∀ a ∈ auntsS L i, a.length = 32 := by
  intro n
  induction n with
  | zero => intro L i hn a ha; rw [auntsS_one L i (by omega)] at ha; cases ha
  | succ n ih =>
    intro L i hn a ha
    by_cases h1 : L.length ≤ 1
    · rw [auntsS_one L i h1] at ha; cases ha
    · have hs := splt_lt L.length (by omega)
      rw [auntsS_more L i (by omega)] at ha
      split at ha
      · rcases List.mem_append.1 ha with h | h
        · exact ih _ i (by rw [List.length_take]; omega) a h
        · rw [List.mem_singleton.1 h]; exact rootS_length _
      · rcases List.mem_append.1 ha with h | h
        · exact ih _ _ (by rw [List.length_drop]; omega) a h
        · rw [List.mem_singleton.1 h]; exact rootS_length _
theorem splt_half (n : Nat) (h : 2 ≤ n) : ∀ c, n ≤ 2 ^ (c + 1) → splt n ≤ 2 ^ c := by
  intro c hc
  obtain ⟨j, e, h1, h2⟩ := splt_is n h
  rw [e]
  rcases Nat.lt_or_ge c j with hcj | hcj
  · have := Nat.pow_le_pow_right (show 0 < 2 by omega) hcj
    rw [Nat.succ_eq_add_one] at this
    omega
  · exact Nat.pow_le_pow_right (by omega) hcj
theorem auntsS_count : ∀ (c : Nat) (L : List (List UInt8)) (i : Nat), L.length ≤ 2 ^ c → (auntsS L i).length ≤ c := by
  intro c
  induction c with
  | zero => intro L i h; rw [auntsS_one L i (by simpa using h)]; simp
  | succ c ih =>
    intro L i h
    by_cases h1 : L.length ≤ 1
    · rw [auntsS_one L i h1]; simp
    · have hs := splt_lt L.length (by omega)
      have hh := splt_half L.length (by omega) c h
      have h2 : L.length - splt L.length ≤ 2 ^ c := by
        obtain ⟨j, e, g1, g2⟩ := splt_is L.length (by omega)
        rw [e] at hh ⊢; omega
      rw [auntsS_more L i (by omega)]
      split
      · rw [List.length_append]
        have := ih (L.take (splt L.length)) i (by rw [List.length_take]; omega)
        simp; omega
      · rw [List.length_append]
        have := ih (L.drop (splt L.length)) (i - splt L.length) (by rw [List.length_drop]; omega)
        simp; omega

/-- a node's block -/
def Node (w : World) (b : Nat) (hv par le ri : Value) : Prop := w.heap[b]? = some (.cells #[hv, par, le, ri] 148 (0, 0))
def ptrV (b : Nat) : Value := .pointer (some ⟨b, 0, none⟩)
/-- a sum that lies apart from the digest -/
def HashIn (w : World) (bd : Nat) (hv : Value) (a : List UInt8) : Prop := Own w (bd + 1) 5 hv (a.map u8v)
theorem HashIn.byts {w : World} {bd : Nat} {hv : Value} {a : List UInt8} (h : HashIn w bd hv a) : Byts w hv a := Own.slc_map u8v h fun _ _ => rfl
theorem HashIn.keep {w w' : World} {bd : Nat} {hv : Value} {a : List UInt8} (h : HashIn w bd hv a) (k : Kp (fun j => j = bd) w w') : HashIn w' bd hv a :=
  Own.kp h k fun b hb e => by have := (h.lt b hb).1; omega
/-- the way from a node up to r: all between lo and r, the root alone may be written later -/
def PathTo (w : World) (bd lo r : Nat) : Nat → List (List UInt8) → Prop
  | p, [] => p = r
  | p, a :: As => lo ≤ p ∧ p < r ∧ ∃ hv par le ri s hs sp sl sr, Node w p hv (ptrV par) le ri ∧ (le = ptrV s ∨ le = .pointer none ∧ ri = ptrV s) ∧ lo ≤ s ∧ s < r ∧ Node w s hs sp sl sr ∧ HashIn w bd hs a ∧ PathTo w bd lo r par As
theorem PathTo.mv {w w' : World} {bd lo r : Nat} (hN : ∀ j cs, lo ≤ j → j < r → w.heap[j]? = some (.cells cs 148 (0, 0)) → w'.heap[j]? = some (.cells cs 148 (0, 0)))
    (hH : ∀ hs a, HashIn w bd hs a → HashIn w' bd hs a) : ∀ (As : List (List UInt8)) (p : Nat), PathTo w bd lo r p As → PathTo w' bd lo r p As
  | [], _, h => h
  | a :: As, p, h => by
    obtain ⟨h1, h2, hv, par, le, ri, s, hs, sp, sl, sr, n1, c1, h3, h4, n2, hh, rest⟩ := h
    exact ⟨h1, h2, hv, par, le, ri, s, hs, sp, sl, sr, hN _ _ h1 h2 n1, c1, h3, h4, hN _ _ h3 h4 n2, hH _ _ hh, PathTo.mv hN hH As par rest⟩
theorem PathTo.lower {w : World} {bd lo lo' r : Nat} (hl : lo' ≤ lo) : ∀ (As : List (List UInt8)) (p : Nat), PathTo w bd lo r p As → PathTo w bd lo' r p As
  | [], _, h => h
  | a :: As, p, h => by
    obtain ⟨h1, h2, hv, par, le, ri, s, hs, sp, sl, sr, n1, c1, h3, h4, n2, hh, rest⟩ := h
    exact ⟨by omega, h2, hv, par, le, ri, s, hs, sp, sl, sr, n1, c1, by omega, h4, n2, hh, PathTo.lower hl As par rest⟩
/-- one step more: the root has got a parent and a sibling -/
theorem PathTo.up {w : World} {bd lo r r' s : Nat} {hv le ri hs sp sl sr : Value} {a : List UInt8} (hr : lo ≤ r) (hrr : r < r') (n1 : Node w r hv (ptrV r') le ri) (c1 : le = ptrV s ∨ le = .pointer none ∧ ri = ptrV s) (h3 : lo ≤ s) (h4 : s < r') (n2 : Node w s hs sp sl sr) (hh : HashIn w bd hs a) :
    ∀ (As : List (List UInt8)) (p : Nat), PathTo w bd lo r p As → PathTo w bd lo r' p (As ++ [a])
  | [], p, h => by
    have e : p = r := h
    subst e
    exact ⟨hr, hrr, hv, r', le, ri, s, hs, sp, sl, sr, n1, c1, h3, h4, n2, hh, rfl⟩
  | x :: As, p, h => by
    obtain ⟨g1, g2, hv', par, le', ri', s', hs', sp', sl', sr', m1, d1, g3, g4, m2, gh, rest⟩ := h
    exact ⟨g1, by omega, hv', par, le', ri', s', hs', sp', sl', sr', m1, d1, g3, by omega, m2, gh, PathTo.up hr hrr n1 c1 h3 h4 n2 hh As par rest⟩
end Go.Proofs.YtfodkjpjejoemaaDoor
