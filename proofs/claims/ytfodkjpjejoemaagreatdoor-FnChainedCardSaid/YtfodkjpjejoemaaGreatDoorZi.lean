
/-
  The parts of 'FnValid': zzFits1, zzFits2, spec.Valid, ValidateBasic, and the calls around them: what each one returns.
  Conditions: the arguments read as numbers and lists of bytes in the world of the call.
-/
import Derived.Test.YtfodkjpjejoemaaGreatDoorZa
import Derived.WideLaws
import Derived.Deep.RegionHeld3
import Derived.Deep.DrawnRows
import Derived.StillTailTactics
namespace Go.Proofs.YtfodkjpjejoemaaGreatDoor
open Go Go.RowKit

def fits1 (L : List (List UInt8)) : Bool := decide (L.length ≤ 2147483647) && L.all fun b => decide (b.length ≤ 2147483647)
theorem take_all_succ {α : Type} (p : α → Bool) (L : List α) (k : Nat) (h : k < L.length) (h1 : (L.take k).all p = true) (h2 : p L[k] = true) : (L.take (k + 1)).all p = true := by
  rw [List.take_succ_eq_append_getElem h]; simp only [List.all_append, h1, List.all_cons, h2, List.all_nil, Bool.and_true]
theorem all_of_take {α : Type} (p : α → Bool) (L : List α) (k : Nat) (h : ¬ k < L.length) (h1 : (L.take k).all p = true) : L.all p = true := by
  rwa [List.take_of_length_le (by omega)] at h1
theorem all_not {α : Type} (p : α → Bool) (L : List α) (k : Nat) (h : k < L.length) (h2 : p L[k] = false) : L.all p = false := by
  rw [List.all_eq_false]; exact ⟨L[k], List.getElem_mem h, by simp [h2]⟩

set_option maxHeartbeats 400000 in
theorem zzFits1_any (v : Value) (L : List (List UInt8)) (w : World) (h : Mat w v L) :
    Calls Tryz.prog 4 #[v] w fun e w' => e = .returned (.bool (fits1 L)) ∧ w = w' := by
  obtain ⟨A, c, rfl, h1, h2, h3, h4⟩ := h
  unfold maxLen at h2
  by_cases hbig : L.length ≤ 2147483647
  · go_enter Tryz.func4, Tryz.ntmps4
    go_wp2
    go_loop [10] (fun i => ∃ k : Nat, k ≤ L.length ∧ i = .int .i64 k ∧ (L.take k).all (fun b => decide (b.length ≤ 2147483647)) = true) (fun i => L.length - (intOf i).toNat)
    case atStart => exact ⟨0, Nat.zero_le _, rfl, by simp⟩
    case round =>
      obtain ⟨k, hk, rfl, hr⟩ := hrel
      have HR := Lib.hid hr
      clear hr
      by_cases hlt : k < L.length
      · obtain ⟨b, off, rfl, hc⟩ := h4 (by omega)
        obtain ⟨u, hu, A', c', rfl, _, _, _, _⟩ := hc k hlt
        clear hc h4
        by_cases hs : (L[k]'hlt).length ≤ 2147483647
        · have HS := Lib.hid (take_all_succ (fun b => decide (b.length ≤ 2147483647)) L k hlt HR.out (by simp [hs]))
          go_wp2
          go_round
          case rel => exact ⟨k + 1, by omega, by go_num, HS.out⟩
          case measure => simp [intOf]; omega
        · have HS := Lib.hid (all_not (fun b : List UInt8 => decide (b.length ≤ 2147483647)) L k hlt (by simp [hs]))
          go_wp2
          go_ret
          exact ⟨ret_b (by unfold fits1; rw [HS.out, Bool.and_false]), rfl⟩
      · have HS := Lib.hid (all_of_take _ L k hlt HR.out)
        go_wp2
        go_ret
        exact ⟨ret_b (by unfold fits1; rw [HS.out, decide_eq_true hbig]; rfl), rfl⟩
  · go_enter Tryz.func4, Tryz.ntmps4
    go_wp2
    go_ret
    exact ⟨ret_b (by simp [fits1, hbig]), rfl⟩

/-- a proof as the thin package has it -/
structure Prf where
  total : Int
  index : Int
  leaf : List UInt8
  aunts : List (List UInt8)

/-- its value: two numbers and two slices -/
def PrfV (w : World) (v : Value) (p : Prf) : Prop :=
  ∃ lv av, v = .agg #[.int .i64 p.total, .int .i64 p.index, lv, av] ∧ Byts w lv p.leaf ∧ Mat w av p.aunts ∧ -9223372036854775808 ≤ p.total ∧ p.total ≤ 9223372036854775807 ∧ -9223372036854775808 ≤ p.index ∧ p.index ≤ 9223372036854775807
theorem PrfV.keep {w w' : World} {v : Value} {p : Prf} (h : PrfV w v p) (k : Keep w w') : PrfV w' v p := by
  obtain ⟨lv, av, h1, h2, h3, h4⟩ := h
  exact ⟨lv, av, h1, h2.keep k, h3.keep k, h4⟩

def fits2 (p : Prf) : Bool := decide (p.leaf.length ≤ 2147483647) && fits1 p.aunts

end Go.Proofs.YtfodkjpjejoemaaGreatDoor

/-
  The parts of 'FnValid': errors.New, spec.Valid, ValidateBasic, and the thin calls.
  Conditions: the arguments read as numbers and lists of bytes in the world of the call; the package's own error is an error.
-/
namespace Go.Proofs.YtfodkjpjejoemaaGreatDoor
open Go Go.RowKit

def valid (p : Prf) : Bool := decide (0 ≤ p.total) && decide (0 ≤ p.index) && decide (p.leaf.length = 32) && decide (p.aunts.length ≤ 100) && p.aunts.all fun b => decide (b.length = 32)

theorem errNew_any (s : ByteArray) (w : World) :
    Calls Tryz.prog 57 #[.string s] w fun e w' => (∃ x, e = .returned (.iface 149 x)) ∧ Keep w w' := by
  go_enter Tryz.func57, Tryz.ntmps57
  go_wp2
  go_ret
  exact ⟨⟨_, rfl⟩, (Kp.refl _ _).alloc _⟩

def validTo (p : Prf) (k : Nat) : Bool := decide (0 ≤ p.total) && decide (0 ≤ p.index) && decide (p.leaf.length = 32) && decide (p.aunts.length ≤ 100) && (p.aunts.take k).all fun b => decide (b.length = 32)
theorem validTo_succ (p : Prf) (k : Nat) (h : k < p.aunts.length) : validTo p (k + 1) = (validTo p k && decide (p.aunts[k].length = 32)) := by
  unfold validTo; rw [List.take_succ_eq_append_getElem h, List.all_append]; simp only [List.all_cons, List.all_nil, Bool.and_true, Bool.and_assoc]
theorem validTo_all (p : Prf) (k : Nat) (h : ¬ k < p.aunts.length) : validTo p k = valid p := by
  unfold validTo valid; rw [List.take_of_length_le (by omega)]

/-- an error that is there, or none -/
def ErrIs (bad : Bool) (v : Value) : Prop := if bad then ∃ t x, v = .iface t x else v = .nilIface
theorem ErrIs.yes {t : TypeId} {x : Value} : ErrIs true (.iface t x) := ⟨t, x, rfl⟩
theorem ErrIs.no : ErrIs false .nilIface := rfl

/-- what a proof is, as numbers, in cells: the package's own Proof -/
def PrfAt (w : World) (b : Nat) (p : Prf) : Prop :=
  ∃ lv av, w.cell? ⟨b, 0, none⟩ = some (.int .i64 p.total) ∧ w.cell? ⟨b, 1, none⟩ = some (.int .i64 p.index) ∧ w.cell? ⟨b, 2, none⟩ = some lv ∧ w.cell? ⟨b, 3, none⟩ = some av ∧ Byts w lv p.leaf ∧ Mat w av p.aunts ∧
    -9223372036854775808 ≤ p.total ∧ p.total ≤ 9223372036854775807 ∧ -9223372036854775808 ≤ p.index ∧ p.index ≤ 9223372036854775807

set_option maxHeartbeats 800000 in
theorem validate_any (b : Nat) (p : Prf) (w : World) (h : PrfAt w b p) (t0 : TypeId) (x0 : Value) (hg : w.cell? ⟨3, 0, none⟩ = some (.iface t0 x0)) :
    Calls Tryz.prog 71 #[.pointer (some ⟨b, 0, none⟩)] w fun e w' => (∃ v, e = .returned v ∧ ErrIs (!valid p) v) ∧ Keep w w' := by
  obtain ⟨lv, av, hc0, hc1, hc2, hc3, ⟨A0, c0, rfl, g1, g2, g3, _⟩, ha, b1, b2, b3, b4⟩ := h
  obtain ⟨A, c, rfl, h1, h2, h3, h4⟩ := ha
  unfold maxLen at h2 g2
  have H4 := Lib.hid h4
  clear h4
  rcases (show (¬ 0 ≤ p.total) ∨ (0 ≤ p.total ∧ ¬ 0 ≤ p.index) ∨ (0 ≤ p.total ∧ 0 ≤ p.index ∧ ¬ p.leaf.length = 32) ∨ (0 ≤ p.total ∧ 0 ≤ p.index ∧ p.leaf.length = 32 ∧ ¬ p.aunts.length ≤ 100) ∨ (0 ≤ p.total ∧ 0 ≤ p.index ∧ p.leaf.length = 32 ∧ p.aunts.length ≤ 100) from by omega) with q1 | ⟨q1, q2⟩ | ⟨q1, q2, q3⟩ | ⟨q1, q2, q3, q4⟩ | ⟨q1, q2, q3, q4⟩
  case inr.inr.inr.inr =>
    have hv0 : ∀ k, validTo p k = (p.aunts.take k).all fun b => decide (b.length = 32) := fun k => by unfold validTo; simp [q1, q2, q3, q4]
    have HV0 := Lib.hid hv0
    have Q3 := Lib.hid q3
    clear hv0
    go_enter Tryz.func71, Tryz.ntmps71
    go_wp2
    clear q3
    go_loop [42] (fun i => ∃ k : Nat, k ≤ p.aunts.length ∧ i = .int .i64 k ∧ validTo p k = true) (fun i => p.aunts.length - (intOf i).toNat)
    case atStart => exact ⟨0, Nat.zero_le _, rfl, by rw [HV0.out]; simp⟩
    case round =>
      obtain ⟨k, hk, rfl, hv⟩ := hrel
      have HV := Lib.hid hv
      clear hv
      by_cases hlt : k < p.aunts.length
      · obtain ⟨b', off, rfl, hc⟩ := H4.out (by omega)
        obtain ⟨u, hu, A', c', rfl, _, _, _, _⟩ := hc k hlt
        clear hc H4
        have HS := Lib.hid (validTo_succ p k hlt)
        by_cases hs : (p.aunts[k]'hlt).length = 32
        · have HQ := Lib.hid (show validTo p (k + 1) = true by rw [HS.out, HV.out]; simp [hs])
          go_wp2
          go_round
          case rel => exact ⟨k + 1, by omega, by go_num, HQ.out⟩
          case measure => simp [intOf]; omega
        · have HQ := Lib.hid (show valid p = false by
            unfold valid
            rw [all_not (fun b : List UInt8 => decide (b.length = 32)) p.aunts k hlt (by simp [hs]), Bool.and_false])
          go_wp2_with (go_at_call 57; refine (errNew_any _ _).mono ?_; rintro e w1 ⟨⟨x, rfl⟩, hk1⟩)
          go_ret
          exact ⟨⟨_, rfl, by rw [HQ.out]; exact ErrIs.yes⟩, hk1⟩
      · have HS := Lib.hid (validTo_all p k hlt)
        go_wp2
        go_ret
        exact ⟨⟨_, rfl, by rw [← HS.out, HV.out]; exact ErrIs.no⟩, Kp.refl _ _⟩
  all_goals
    have HQ := Lib.hid (show valid p = false by unfold valid; simp [*])
    go_enter Tryz.func71, Tryz.ntmps71
    go_wp2_with (go_at_call 57; refine (errNew_any _ _).mono ?_; rintro e w1 ⟨⟨x, rfl⟩, hk1⟩)
    go_ret
    exact ⟨⟨_, rfl, by rw [HQ.out]; exact ErrIs.yes⟩, by first | exact hk1 | exact Kp.refl _ _⟩
end Go.Proofs.YtfodkjpjejoemaaGreatDoor

/-
  The parts of 'FnValid': the thin calls, and the law's own walk.
  Conditions: the argument reads as two numbers and lists of bytes in the world of the call; the package's own error is an error.
-/
namespace Go.Proofs.YtfodkjpjejoemaaGreatDoor
open Go Go.RowKit
attribute [local go_sem ↓] Go.wp_at_zero Go.wp_at_succ

theorem implProof_any (v : Value) (p : Prf) (w : World) (h : PrfV w v p) :
    Calls Tryz.prog 20 #[v] w fun e w' => e = .returned v ∧ Keep w w' := by
  obtain ⟨lv, av, rfl, ⟨A0, c0, rfl, g1, g2, g3, _⟩, ⟨A, c, rfl, h1, h2, h3, h4⟩, b1, b2, b3, b4⟩ := h
  go_enter Tryz.func20, Tryz.ntmps20
  go_wp2
  refine bodyPost_ret (v := .agg #[.int .i64 p.total, .int .i64 p.index, .slice A0 p.leaf.length c0, .slice A p.aunts.length c]) (by simp [results, Tryz.results20, go_sem]) rfl ⟨rfl, ?_⟩
  exact ((Kp.refl _ _).alloc _).alloc _

end Go.Proofs.YtfodkjpjejoemaaGreatDoor

/-
  Two lists of byte slices compared, two proofs compared.
  Conditions: the arguments read as lists of bytes.
-/
namespace Go.Proofs.YtfodkjpjejoemaaGreatDoor
open Go Go.RowKit
attribute [local go_sem ↓] Go.wp_at_zero Go.wp_at_succ

theorem same2_any (v1 v2 : Value) (L M : List UInt8) (w : World) (h1 : Byts w v1 L) (h2 : Byts w v2 M) :
    Calls Tryz.prog 13 #[v1, v2] w fun e w' => e = .returned (.bool (L == M)) ∧ w = w' := by
  have H1 := h1
  have H2 := h2
  obtain ⟨A, c, rfl, a1, a2, a3, a4⟩ := h1
  obtain ⟨B, d, rfl, b1, b2, b3, b4⟩ := h2
  have e1 := byts_string (P := Tryz.prog) Tryz.underlying24 Tryz.underlying5 Tryz.underlying9 H1
  have e2 := byts_string (P := Tryz.prog) Tryz.underlying24 Tryz.underlying5 Tryz.underlying9 H2
  clear a1 a2 a3 a4 b1 b2 b3 b4 H1 H2
  go_enter Tryz.func13, Tryz.ntmps13
  go_wp2
  go_ret
  exact ⟨rfl, rfl⟩

theorem list_beq_iff {α : Type} [BEq α] [LawfulBEq α] (L M : List α) (k : Nat) (h : L.length = M.length) (hk : ¬ k < L.length) (he : ∀ i (h1 : i < L.length) (h2 : i < M.length), i < k → L[i] = M[i]) : (L == M) = true := by
  rw [beq_iff_eq]
  exact List.ext_getElem h fun i h1 h2 => he i h1 h2 (by omega)

set_option maxHeartbeats 1000000 in
theorem equalFunc_any (v1 v2 : Value) (L M : List (List UInt8)) (w : World) (h1 : Mat w v1 L) (h2 : Mat w v2 M) :
    Calls Tryz.prog 12 #[v1, v2, .func (.func 13) #[] #[]] w fun e w' => e = .returned (.bool (L == M)) ∧ w = w' := by
  obtain ⟨A, c, rfl, a1, a2, a3, a4⟩ := h1
  obtain ⟨B, d, rfl, b1, b2, b3, b4⟩ := h2
  unfold maxLen at a2 b2
  by_cases hlen : L.length = M.length
  · have hne : ((L.length : Int) != (M.length : Int)) = false := by simp [hlen]
    obtain ⟨n, hn⟩ : ∃ n, n = L.length := ⟨_, rfl⟩
    have hnM : M.length = n := by omega
    have HN := Lib.hid hn
    have HNM := Lib.hid hnM
    have A4 := Lib.hid a4
    have B4 := Lib.hid b4
    rw [← hn, hnM] at hne ⊢
    rw [← hn] at a1
    rw [hnM] at b1
    clear hlen hn hnM a4 b4 a3 b3
    go_enter Tryz.func12, Tryz.ntmps12
    go_wp2_with fail
    go_loopw [17] (fun i wr => ∃ k : Nat, k ≤ n ∧ i = .int .i64 k ∧ (∀ i (h1 : i < L.length) (h2 : i < M.length), i < k → L[i] = M[i]) ∧ w = wr) (fun i _ => n - (intOf i).toNat)
    case atStart => exact ⟨0, Nat.zero_le _, rfl, fun i _ _ h => absurd h (by omega), rfl⟩
    case round =>
      obtain ⟨k, hk, rfl, he, rfl⟩ := hrel
      have HE := Lib.hid he
      clear he
      by_cases hlt : k < n
      · have hkL : k < L.length := by rw [← HN.out]; exact hlt
        have hkM : k < M.length := by rw [HNM.out]; exact hlt
        obtain ⟨b0, o0, rfl, hc0⟩ := A4.out (by omega)
        obtain ⟨b1', o1, rfl, hc1⟩ := B4.out (by omega)
        obtain ⟨u, hu, hur⟩ := hc0 k hkL
        obtain ⟨x, hx, hxr⟩ := hc1 k hkM
        have SAME := Lib.hid (same2_any u x _ _ w hur hxr)
        obtain ⟨A5, c5, rfl, -, -, -, -⟩ := hur
        obtain ⟨A6, c6, rfl, -, -, -, -⟩ := hxr
        clear hc0 hc1
        cases hq : (L[k] == M[k])
        · have HQ := Lib.hid hq
          clear hq
          go_wp2_with (go_at_call 13; refine SAME.out.mono ?_; rintro e w' ⟨rfl, rfl⟩; rw [HQ.out])
          go_ret
          refine ⟨ret_b ?_, rfl⟩
          cases hLM : (L == M)
          · rfl
          · rw [beq_iff_eq] at hLM
            subst hLM
            have := HQ.out
            simp at this
        · have HQ := Lib.hid hq
          clear hq
          go_wp2_with (go_at_call 13; refine SAME.out.mono ?_; rintro e w' ⟨rfl, rfl⟩; rw [HQ.out])
          go_roundw
          case rel => exact ⟨k + 1, by omega, by go_num, fun i h1 h2 hi => by
            rcases Nat.lt_or_ge i k with h3 | h3
            · exact HE.out i h1 h2 h3
            · obtain rfl : i = k := by omega
              have := HQ.out
              rwa [beq_iff_eq] at this, by first | rfl | trivial⟩
          case measure => simp [intOf]; omega
      · go_wp2_with fail
        go_ret
        exact ⟨ret_b (list_beq_iff L M k (by rw [← HN.out, HNM.out]) (by rw [← HN.out]; exact hlt) HE.out).symm, rfl⟩
  · have hne : ((L.length : Int) != (M.length : Int)) = true := by simp; omega
    have hf : (L == M) = false := by
      cases hLM : (L == M)
      · rfl
      · rw [beq_iff_eq] at hLM; subst hLM; exact absurd rfl hlen
    have HF := Lib.hid hf
    clear a4 b4 a3 b3 hf
    go_enter Tryz.func12, Tryz.ntmps12
    go_wp2_with fail
    go_ret
    exact ⟨ret_b HF.out.symm, rfl⟩
end Go.Proofs.YtfodkjpjejoemaaGreatDoor

/-
  At most 300 items of at most 2,000 bytes: the laws' own cut, walked.
  Conditions: the argument reads as a list of slices of bytes.
-/
namespace Go.Proofs.YtfodkjpjejoemaaGreatDoor
open Go Go.RowKit
attribute [local go_sem ↓] Go.wp_at_zero Go.wp_at_succ

def manyL (L : List (List UInt8)) : List (List UInt8) := (L.take 300).map fun b => b.take 2000
theorem manyL_length (L : List (List UInt8)) : (manyL L).length ≤ 300 := by unfold manyL; rw [List.length_map, List.length_take]; omega
theorem manyL_part (L : List (List UInt8)) : ∀ b ∈ manyL L, b.length ≤ 2000 := fun b hb => by
  obtain ⟨x, _, rfl⟩ := List.mem_map.1 hb
  rw [List.length_take]; omega

set_option maxHeartbeats 2000000 in
theorem many_any (v : Value) (L : List (List UInt8)) (w : World) (hv : Mat w v L) :
    Calls Tryz.prog 5 #[v] w fun e w' => ∃ v', e = .returned v' ∧ Mat w' v' (manyL L) ∧ Keep w w' := by
  obtain ⟨m, hm⟩ : ∃ m : Nat, m = min L.length 300 := ⟨_, rfl⟩
  have HV := Lib.hid hv
  obtain ⟨A, c, rfl, h1, h2, h3, h4⟩ := hv
  have hmin : min (L.length : Int) 300 = (m : Int) := by omega
  obtain ⟨A1, c1, hs1, hm1⟩ := slc_to (P := Tryz.prog) Tryz.underlying22 szM HV.out m (by omega)
  have HM1 := Lib.hid (hm1 _ HV.out)
  have hml : (L.take m).length = m := by rw [List.length_take]; omega
  have HMany : Hid (manyL L = (L.take m).map fun b => b.take 2000) := Lib.hid (by
    unfold manyL
    congr 1
    rw [hm]
    rcases Nat.le_total L.length 300 with h | h
    · rw [Nat.min_eq_left h, List.take_of_length_le h, List.take_of_length_le (Nat.le_refl _)]
    · rw [Nat.min_eq_right h])
  unfold maxLen at h2
  have hm300 : m ≤ 300 := by omega
  have hmL : m ≤ L.length := by omega
  obtain ⟨T, hT⟩ : ∃ T, T = L.take m := ⟨_, rfl⟩
  rw [← hT] at HM1 hml HMany
  have HML := Lib.hid hml
  clear h3 h4 hm hm1 hml hT
  go_enter Tryz.func5, Tryz.ntmps5
  go_wp2_with fail
  go_loopw [3, 12] (fun ov iv wr => ∃ (i : Nat) (vals : List Value), i ≤ m ∧ iv = .int .i64 i ∧ vals.length = i ∧ Own wr w.heap.size 24 ov vals ∧ (∀ k (h : k < vals.length) (h2 : k < T.length), Byts w vals[k] (T[k].take 2000)) ∧ Keep w wr) (fun _ iv _ => m - (intOf iv).toNat)
  case atStart => exact ⟨0, [], Nat.zero_le _, rfl, rfl, Own.nil_ _ _ _, fun k h => absurd h (by simp), Kp.refl _ _⟩
  case round =>
    obtain ⟨i, vals, hi, rfl, hvl, hown, hby, hkp⟩ := hrel
    have HVL := Lib.hid hvl
    have HW := Lib.hid hown
    have HBY := Lib.hid hby
    have HKP := Lib.hid hkp
    obtain ⟨A2, c2, rfl, f1, f2, f3, f4⟩ := hown.form
    rw [hvl] at f1 HW ⊢
    unfold maxLen at f2
    clear hvl hown hby hkp f3 f4
    by_cases hlt : i < m
    · have hiT : i < T.length := by rw [HML.out]; exact hlt
      have hmat := HM1.out.of_eq.2.2.2.2
      obtain ⟨g, off, rfl, hc⟩ := hmat (by omega)
      obtain ⟨u, hu, hur⟩ := hc i hiT
      have hu2 := HKP.out.cell_of hu (fun x => x)
      obtain ⟨x, hx⟩ : ∃ x, x = T[i] := ⟨_, rfl⟩
      rw [← hx] at hur
      have HX := Lib.hid hx
      have HUR := Lib.hid hur
      obtain ⟨m2, hm2⟩ : ∃ m2 : Nat, m2 = min x.length 2000 := ⟨_, rfl⟩
      obtain ⟨A3, c3, rfl, g1, g2, g3, g4⟩ := hur
      have hmin2 : min (x.length : Int) 2000 = (m2 : Int) := by omega
      obtain ⟨A4, c4, hs4, hm4⟩ := slc_to (P := Tryz.prog) Tryz.underlying24 szB HUR.out m2 (by omega)
      have HB4 : Hid (Byts w (.slice A4 m2 c4) (x.take 2000)) := Lib.hid (by
        have h9 := hm4 _ HUR.out
        rw [hm2] at h9 ⊢
        rcases Nat.le_total x.length 2000 with h | h
        · rw [Nat.min_eq_left h] at h9 ⊢
          rw [List.take_of_length_le (Nat.le_refl _)] at h9
          rw [List.take_of_length_le h]
          exact h9
        · rw [Nat.min_eq_right h] at h9 ⊢
          exact h9)
      have hm2x : m2 ≤ x.length := by omega
      unfold maxLen at g2
      clear hmat hc hu hx hm2 g3 g4 hm4
      go_wp2_with (at_builtin
                   refine wpList_app (news := [.slice A4 m2 c4]) rfl (.tmp 16) (.tmp 22) 22 rfl appM rfl (HW.out.alloc _) rfl (Src.one (by simp)) (by intro u hu; simp at hu; subst hu; rfl) (fun e => by cases e) (by rw [HVL.out]; omega) (by have := HKP.out.size; simp; omega) ?_
                   intro v2 w2 h2 hk2 _
                   have HV2 := Lib.hid h2
                   have HK2 := Lib.hid hk2
                   clear h2 hk2)
      go_roundw
      case rel =>
        refine ⟨i + 1, vals ++ [.slice A4 m2 c4], hlt, by go_num, by simp [HVL.out], HV2.out, ?_, (HKP.out.alloc _).trans' HK2.out (fun j hj e => by have := (HW.out.lt j e.symm).1; omega)⟩
        intro k hk hk2
        by_cases hki : k < vals.length
        · rw [List.getElem_append_left hki]
          exact HBY.out k hki hk2
        · have hkv : k = i := by simp at hk; have := HVL.out; omega
          have e1 : (vals ++ [Value.slice A4 m2 c4])[k]'hk = .slice A4 m2 c4 := by
            rw [List.getElem_append_right (by omega)]; simp
          subst hkv
          rw [e1, ← HX.out]
          exact HB4.out
      case measure => simp [intOf]; omega
    · obtain rfl : i = m := by omega
      go_wp2_with fail
      go_ret
      refine ⟨_, rfl, ?_, HKP.out⟩
      rw [HMany.out]
      exact HW.out.slc (by rw [HVL.out, List.length_map, HML.out]) fun k h h' => by
        rw [List.getElem_map]
        exact Byts.keep (HBY.out k h (by simpa using h')) HKP.out
end Go.Proofs.YtfodkjpjejoemaaGreatDoor

/-
  A proof handed out of the package, and two proofs compared.
  Conditions: the block's cells hold a proof; both read as the same proof.
-/
namespace Go.Proofs.YtfodkjpjejoemaaGreatDoor
open Go Go.RowKit
attribute [local go_sem ↓] Go.wp_at_zero Go.wp_at_succ

set_option maxHeartbeats 1000000 in
theorem implOurs_any (b : Nat) (p : Prf) (w : World) (lv av : Value) (hl : Byts w lv p.leaf) (ha : Mat w av p.aunts) (c0 : w.cell? ⟨b, 0, none⟩ = some (.int .i64 p.total)) (c1 : w.cell? ⟨b, 1, none⟩ = some (.int .i64 p.index)) (c2 : w.cell? ⟨b, 2, none⟩ = some lv) (c3 : w.cell? ⟨b, 3, none⟩ = some av) :
    Calls Tryz.prog 19 #[.pointer (some ⟨b, 0, none⟩)] w fun e w' => e = .returned (.agg #[.int .i64 p.total, .int .i64 p.index, lv, av]) ∧ Keep w w' := by
  obtain ⟨A0, d0, rfl, -, -, -, -⟩ := hl
  obtain ⟨A1, d1, rfl, -, -, -, -⟩ := ha
  have lb := World.block_lt_of_cell? w _ c0
  simp only at lb
  go_enter Tryz.func19, Tryz.ntmps19
  go_wp2_with fail
  go_region_held3 (fun w' => w'.cell? ⟨b, 0, none⟩ = some (.int .i64 p.total) ∧ w'.cell? ⟨b, 1, none⟩ = some (.int .i64 p.index) ∧ w'.cell? ⟨b, 2, none⟩ = some (.slice A0 p.leaf.length d0) ∧ w'.cell? ⟨b, 3, none⟩ = some (.slice A1 p.aunts.length d1)) (first | go_keep) (first | fail)
  go_wp2_with fail
  have hk : Keep w (w.alloc (Obj.cells #[.int .i64 p.total, .int .i64 p.index, .slice A0 p.leaf.length d0, .slice A1 p.aunts.length d1] 36)).drew := ((Kp.refl _ _).alloc _).drew
  exact bodyPost_ret (v := .agg #[.int .i64 p.total, .int .i64 p.index, .slice A0 p.leaf.length d0, .slice A1 p.aunts.length d1]) (by simp [results, Tryz.results19, go_sem]) rfl ⟨rfl, hk⟩

end Go.Proofs.YtfodkjpjejoemaaGreatDoor
