/-
  Paths as text in plain Lean: keys escaped or as hexadecimal digits; they are the path's keys again.
  Conditions: none (definitions, and laws on them).
-/
import Derived.Test.YtfodkjpjejoemaaDoorKey3
namespace Go.Proofs.YtfodkjpjejoemaaDoor
open Go

/-- a hexadecimal digit, upper case -/
def up (n : Nat) : UInt8 := UInt8.ofNat (if n < 10 then 48 + n else 55 + n)
/-- a byte that a path's segment bears as it is -/
def safeN (n : Nat) : Bool := bits .and .u8 (urlTab.getD n 0) 2 != 0
def safe (c : UInt8) : Bool := safeN c.toNat
def escB (c : UInt8) : List UInt8 := if safe c then [c] else [37, up (c.toNat / 16), up (c.toNat % 16)]
def esc (k : List UInt8) : List UInt8 := k.flatMap escB
def hexB (c : UInt8) : List UInt8 := [up (c.toNat / 16), up (c.toNat % 16)]
def hexU (k : List UInt8) : List UInt8 := k.flatMap hexB
def txt (p : List UInt8 × Bool) : List UInt8 := if p.2 then 120 :: 58 :: hexU p.1 else esc p.1
def pathL (KS : List (List UInt8 × Bool)) : List UInt8 := KS.flatMap fun p => 47 :: txt p

theorem up_fin : ∀ n : Fin 16, dg (up n.val) = n.val ∧ up n.val ≠ 47 ∧ up n.val ≠ 37 := by decide +kernel
theorem up_dg (n : Nat) (h : n < 16) : dg (up n) = n := (up_fin ⟨n, h⟩).1
theorem up_ne (n : Nat) (h : n < 16) : up n ≠ 47 := (up_fin ⟨n, h⟩).2.1
theorem two_up (c : UInt8) : two (up (c.toNat / 16)) (up (c.toNat % 16)) = c := by
  have h := c.toNat_lt
  unfold two
  rw [up_dg _ (by omega), up_dg _ (by omega)]
  have e : (((c.toNat / 16 : Nat) : Int) * 16 + ((c.toNat % 16 : Nat) : Int)).toNat = c.toNat := by omega
  rw [e]; simp
theorem safe_slash : safe 47 = false := by decide +kernel
theorem safe_pct : safe 37 = false := by decide +kernel
theorem safe_colon : safe 58 = true := by decide +kernel
theorem safe_x : safe 120 = true := by decide +kernel

theorem esc_nil : esc [] = [] := rfl
theorem esc_cons (c : UInt8) (k : List UInt8) : esc (c :: k) = escB c ++ esc k := List.flatMap_cons
theorem esc_append (a b : List UInt8) : esc (a ++ b) = esc a ++ esc b := List.flatMap_append
theorem escB_safe (c : UInt8) (h : safe c = true) : escB c = [c] := by unfold escB; rw [if_pos h]
theorem escB_not (c : UInt8) (h : safe c = false) : escB c = [37, up (c.toNat / 16), up (c.toNat % 16)] := by unfold escB; rw [if_neg (by simp [h])]
theorem unesc_esc : ∀ k : List UInt8, unesc (esc k) = some k
  | [] => unesc_nil
  | c :: k => by
    have ih := unesc_esc k
    rw [esc_cons]
    cases hs : safe c with
    | true =>
      rw [escB_safe c hs, List.cons_append, List.nil_append, unesc_plain, ih]
      · rfl
      · intro h; rw [h, safe_pct] at hs; cases hs
    | false =>
      have h := c.toNat_lt
      rw [escB_not c hs, List.cons_append, List.cons_append, List.cons_append, List.nil_append, unesc_two, ih, two_up]
      · rfl
      · rw [up_dg _ (by omega), up_dg _ (by omega)]; omega
theorem hexD_hexU : ∀ k : List UInt8, hexD (hexU k) = some k
  | [] => rfl
  | c :: k => by
    have ih := hexD_hexU k
    have h := c.toNat_lt
    show hexD (up (c.toNat / 16) :: up (c.toNat % 16) :: hexU k) = _
    rw [hexD, if_neg (by rw [up_dg _ (by omega), up_dg _ (by omega)]; omega), ih, two_up]
    rfl
theorem esc_no : ∀ (k : List UInt8), ∀ c ∈ esc k, c ≠ 47 := by
  intro k c hc
  obtain ⟨x, _, hx⟩ := List.mem_flatMap.1 hc
  have h := x.toNat_lt
  cases hs : safe x with
  | true =>
    rw [escB_safe x hs] at hx
    rw [List.mem_singleton.1 hx]
    intro e; rw [e, safe_slash] at hs; cases hs
  | false =>
    rw [escB_not x hs] at hx
    simp only [List.mem_cons, List.not_mem_nil, or_false] at hx
    rcases hx with rfl | rfl | rfl
    · decide
    · exact up_ne _ (by omega)
    · exact up_ne _ (by omega)
theorem hexU_no : ∀ (k : List UInt8), ∀ c ∈ hexU k, c ≠ 47 := by
  intro k c hc
  obtain ⟨x, _, hx⟩ := List.mem_flatMap.1 hc
  have h := x.toNat_lt
  simp only [hexB, List.mem_cons, List.not_mem_nil, or_false] at hx
  rcases hx with rfl | rfl
  · exact up_ne _ (by omega)
  · exact up_ne _ (by omega)
theorem txt_no (p : List UInt8 × Bool) : ∀ c ∈ txt p, c ≠ 47 := by
  intro c hc
  unfold txt at hc
  split at hc
  · simp only [List.mem_cons] at hc
    rcases hc with rfl | rfl | hc
    · decide
    · decide
    · exact hexU_no _ _ hc
  · exact esc_no _ _ hc
theorem prefix_two (a b : UInt8) (t : List UInt8) : Lib.hasPrefix (a :: b :: t) [120, 58] = (a == 120 && b == 58) := by
  unfold Lib.hasPrefix
  simp [List.isPrefixOf]
  rw [Bool.eq_iff_iff]
  simp
  constructor
  · rintro ⟨h1, h2⟩; exact ⟨h1.symm, h2.symm⟩
  · rintro ⟨h1, h2⟩; exact ⟨h1.symm, h2.symm⟩
theorem escB_head (c : UInt8) : ∃ t, (escB c = c :: t ∧ safe c = true) ∨ (escB c = 37 :: t ∧ safe c = false) := by
  cases hs : safe c with
  | true => exact ⟨[], .inl ⟨escB_safe c hs, rfl⟩⟩
  | false => exact ⟨_, .inr ⟨escB_not c hs, rfl⟩⟩
theorem esc_prefix (k : List UInt8) (h : Lib.hasPrefix k [120, 58] = false) : Lib.hasPrefix (esc k) [120, 58] = false := by
  cases hq : Lib.hasPrefix (esc k) [120, 58] with
  | false => rfl
  | true =>
    exfalso
    match k, h, hq with
    | [], _, hq => simp [esc, Lib.hasPrefix, List.isPrefixOf] at hq
    | [c], _, hq =>
      obtain ⟨t, ⟨e, hs⟩ | ⟨e, hs⟩⟩ := escB_head c
      · rw [esc_cons, escB_safe c hs] at hq
        simp [esc, Lib.hasPrefix, List.isPrefixOf] at hq
      · rw [esc_cons, escB_not c hs] at hq
        simp [Lib.hasPrefix, List.isPrefixOf] at hq
    | c :: d :: t, h, hq =>
      rw [prefix_two] at h
      rw [esc_cons, esc_cons] at hq
      cases hs : safe c with
      | false =>
        rw [escB_not c hs] at hq
        simp [Lib.hasPrefix, List.isPrefixOf] at hq
      | true =>
        rw [escB_safe c hs] at hq
        cases hs2 : safe d with
        | false =>
          rw [escB_not d hs2] at hq
          simp [Lib.hasPrefix, List.isPrefixOf] at hq
        | true =>
          rw [escB_safe d hs2] at hq
          simp only [List.cons_append, List.nil_append] at hq
          rw [prefix_two, h] at hq
          cases hq
theorem keyOf_txt (p : List UInt8 × Bool) (h : p.2 = false → Lib.hasPrefix p.1 [120, 58] = false) : keyOf (txt p) = some p.1 := by
  unfold keyOf txt
  cases hp : p.2 with
  | true =>
    rw [if_pos (rfl : true = true)]
    have e : Lib.hasPrefix (120 :: 58 :: hexU p.1) [120, 58] = true := by rw [prefix_two]; rfl
    rw [if_pos e]
    exact hexD_hexU p.1
  | false =>
    have e2 : (if (false : Bool) = true then 120 :: 58 :: hexU p.1 else esc p.1) = esc p.1 := if_neg (by simp)
    rw [e2, esc_prefix _ (h hp)]
    exact (if_neg (by simp)).trans (unesc_esc p.1)
theorem segs_path : ∀ (p : List UInt8 × Bool) (r : List (List UInt8 × Bool)), segs (txt p ++ pathL r) = (p :: r).map txt
  | p, [] => by
    show segs (txt p ++ []) = [txt p]
    rw [List.append_nil, segs_one _ (txt_no p)]
  | p, q :: r => by
    have ih := segs_path q r
    show segs (txt p ++ (47 :: txt q ++ pathL r)) = _
    rw [List.cons_append, segs_more _ _ (txt_no p), ih]
    rfl
theorem keysL_txt : ∀ (KS : List (List UInt8 × Bool)), (∀ p ∈ KS, p.2 = false → Lib.hasPrefix p.1 [120, 58] = false) → keysL (KS.map txt) = some (KS.map (·.1))
  | [], _ => rfl
  | p :: r, h => by
    rw [List.map_cons, keysL_cons _ _ _ (keyOf_txt p (h p (by simp))), keysL_txt r (fun q hq => h q (by simp [hq]))]
    rfl
theorem keysOf_path (KS : List (List UInt8 × Bool)) (h0 : KS ≠ []) (h : ∀ p ∈ KS, p.2 = false → Lib.hasPrefix p.1 [120, 58] = false) : keysOf (pathL KS) = some (KS.map (·.1)) := by
  match KS, h0, h with
  | p :: r, _, h =>
    show keysOf (47 :: (txt p ++ pathL r)) = _
    have e : keysOf (47 :: (txt p ++ pathL r)) = keysL (segs (txt p ++ pathL r)) := by simp [keysOf]
    rw [e, segs_path, keysL_txt _ h]
theorem escB_length (c : UInt8) : (escB c).length ≤ 3 ∧ 1 ≤ (escB c).length := by
  unfold escB; split <;> simp
theorem esc_length : ∀ k : List UInt8, (esc k).length ≤ 3 * k.length
  | [] => by simp [esc]
  | c :: k => by
    have := esc_length k
    have := (escB_length c).1
    rw [esc_cons, List.length_append, List.length_cons]; omega
theorem hexU_length : ∀ k : List UInt8, (hexU k).length = 2 * k.length
  | [] => rfl
  | c :: k => by
    have := hexU_length k
    show (up _ :: up _ :: hexU k).length = _
    simp; omega
theorem txt_length (p : List UInt8 × Bool) : (txt p).length ≤ 3 * p.1.length + 2 := by
  unfold txt
  split
  · have := hexU_length p.1; simp; omega
  · have := esc_length p.1; omega
end Go.Proofs.YtfodkjpjejoemaaDoor
