/-
  The parts of 'FnValid': zzFits1, zzFits2, spec.Valid, ValidateBasic, and the calls around them: what each one returns.
  Conditions: the arguments read as numbers and lists of bytes in the world of the call.
-/
import Derived.Test.YtfodkjpjejoemaaDoorBase
import Derived.WideLaws
namespace Go.Proofs.YtfodkjpjejoemaaDoor
open Go Go.RowKit

def fits1 (L : List (List UInt8)) : Bool := decide (L.length ≤ 2147483647) && L.all fun b => decide (b.length ≤ 2147483647)
theorem take_all_succ {α : Type} (p : α → Bool) (L : List α) (k : Nat) (h : k < L.length) (h1 : (L.take k).all p = true) (h2 : p L[k] = true) : (L.take (k + 1)).all p = true := by
  rw [List.take_succ_eq_append_getElem h]; simp only [List.all_append, h1, List.all_cons, h2, List.all_nil, Bool.and_true]
theorem all_of_take {α : Type} (p : α → Bool) (L : List α) (k : Nat) (h : ¬ k < L.length) (h1 : (L.take k).all p = true) : L.all p = true := by
  rwa [List.take_of_length_le (by omega)] at h1
theorem all_not {α : Type} (p : α → Bool) (L : List α) (k : Nat) (h : k < L.length) (h2 : p L[k] = false) : L.all p = false := by
  rw [List.all_eq_false]; exact ⟨L[k], List.getElem_mem h, by simp [h2]⟩

set_option maxHeartbeats 400000 in
theorem zzFits1_any (v : Value) (L : List (List UInt8)) (w : World) (h : Mat w v L) :
    Calls Tryd.prog 26 #[v] w fun e w' => e = .returned (.bool (fits1 L)) ∧ w = w' := by
  obtain ⟨A, c, rfl, h1, h2, h3, h4⟩ := h
  unfold maxLen at h2
  by_cases hbig : L.length ≤ 2147483647
  · go_enter Tryd.func26, Tryd.ntmps26
    go_wp2
    go_loop [10] (fun i => ∃ k : Nat, k ≤ L.length ∧ i = .int .i64 k ∧ (L.take k).all (fun b => decide (b.length ≤ 2147483647)) = true) (fun i => L.length - (intOf i).toNat)
    case atStart => exact ⟨0, Nat.zero_le _, rfl, by simp⟩
    case round =>
      obtain ⟨k, hk, rfl, hr⟩ := hrel
      have HR := Lib.hid hr
      clear hr
      by_cases hlt : k < L.length
      · obtain ⟨b, off, rfl, hc⟩ := h4 (by omega)
        obtain ⟨u, hu, A', c', rfl, _, _, _, _⟩ := hc k hlt
        clear hc h4
        by_cases hs : (L[k]'hlt).length ≤ 2147483647
        · have HS := Lib.hid (take_all_succ (fun b => decide (b.length ≤ 2147483647)) L k hlt HR.out (by simp [hs]))
          go_wp2
          go_round
          case rel => exact ⟨k + 1, by omega, by go_num, HS.out⟩
          case measure => simp [intOf]; omega
        · have HS := Lib.hid (all_not (fun b : List UInt8 => decide (b.length ≤ 2147483647)) L k hlt (by simp [hs]))
          go_wp2
          go_ret
          exact ⟨ret_b (by unfold fits1; rw [HS.out, Bool.and_false]), rfl⟩
      · have HS := Lib.hid (all_of_take _ L k hlt HR.out)
        go_wp2
        go_ret
        exact ⟨ret_b (by unfold fits1; rw [HS.out, decide_eq_true hbig]; rfl), rfl⟩
  · go_enter Tryd.func26, Tryd.ntmps26
    go_wp2
    go_ret
    exact ⟨ret_b (by simp [fits1, hbig]), rfl⟩

/-- a proof as the thin package has it -/
structure Prf where
  total : Int
  index : Int
  leaf : List UInt8
  aunts : List (List UInt8)

/-- its value: two numbers and two slices -/
def PrfV (w : World) (v : Value) (p : Prf) : Prop :=
  ∃ lv av, v = .agg #[.int .i64 p.total, .int .i64 p.index, lv, av] ∧ Byts w lv p.leaf ∧ Mat w av p.aunts ∧ -9223372036854775808 ≤ p.total ∧ p.total ≤ 9223372036854775807 ∧ -9223372036854775808 ≤ p.index ∧ p.index ≤ 9223372036854775807
theorem PrfV.keep {w w' : World} {v : Value} {p : Prf} (h : PrfV w v p) (k : Keep w w') : PrfV w' v p := by
  obtain ⟨lv, av, h1, h2, h3, h4⟩ := h
  exact ⟨lv, av, h1, h2.keep k, h3.keep k, h4⟩

def fits2 (p : Prf) : Bool := decide (p.leaf.length ≤ 2147483647) && fits1 p.aunts

set_option maxHeartbeats 400000 in
theorem zzFits2_any (v : Value) (p : Prf) (w : World) (h : PrfV w v p) :
    Calls Tryd.prog 12 #[v] w fun e w' => e = .returned (.bool (fits2 p)) ∧ Keep w w' := by
  obtain ⟨lv, av, rfl, hl, ha, _⟩ := h
  obtain ⟨A, c, rfl, h1, h2, h3, h4⟩ := hl
  clear h4
  by_cases hbig : p.leaf.length ≤ 2147483647
  · have hm : Mat (w.alloc (.cells #[.int .i64 p.total, .int .i64 p.index, .slice A p.leaf.length c, av] 25)) av p.aunts := ha.keep ((Kp.refl _ _).alloc _)
    have HM := Lib.hid (zzFits1_any av p.aunts _ hm)
    clear hm ha
    cases hf : fits1 p.aunts
    all_goals
      have HF := Lib.hid hf
      clear hf
      go_enter Tryd.func12, Tryd.ntmps12
      go_wp2_with (go_at_call 26; refine HM.out.mono ?_; rintro e w' ⟨rfl, rfl⟩; rw [HF.out])
      go_ret
      exact ⟨ret_b (by simp [fits2, hbig, HF.out]), (Kp.refl _ _).alloc _⟩
  · go_enter Tryd.func12, Tryd.ntmps12
    go_wp2
    go_ret
    exact ⟨ret_b (by simp [fits2, hbig]), (Kp.refl _ _).alloc _⟩
end Go.Proofs.YtfodkjpjejoemaaDoor
