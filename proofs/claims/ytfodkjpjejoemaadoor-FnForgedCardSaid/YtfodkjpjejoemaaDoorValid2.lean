/-
  The parts of 'FnValid': errors.New, spec.Valid, ValidateBasic, and the thin calls.
  Conditions: the arguments read as numbers and lists of bytes in the world of the call; the package's own error is an error.
-/
import Derived.Test.YtfodkjpjejoemaaDoorValid1
namespace Go.Proofs.YtfodkjpjejoemaaDoor
open Go Go.RowKit

def valid (p : Prf) : Bool := decide (0 ≤ p.total) && decide (0 ≤ p.index) && decide (p.leaf.length = 32) && decide (p.aunts.length ≤ 100) && p.aunts.all fun b => decide (b.length = 32)

theorem errNew_any (s : ByteArray) (w : World) :
    Calls Tryd.prog 88 #[.string s] w fun e w' => (∃ x, e = .returned (.iface 166 x)) ∧ Keep w w' := by
  go_enter Tryd.func88, Tryd.ntmps88
  go_wp2
  go_ret
  exact ⟨⟨_, rfl⟩, (Kp.refl _ _).alloc _⟩

def validTo (p : Prf) (k : Nat) : Bool := decide (0 ≤ p.total) && decide (0 ≤ p.index) && decide (p.leaf.length = 32) && decide (p.aunts.length ≤ 100) && (p.aunts.take k).all fun b => decide (b.length = 32)
theorem validTo_succ (p : Prf) (k : Nat) (h : k < p.aunts.length) : validTo p (k + 1) = (validTo p k && decide (p.aunts[k].length = 32)) := by
  unfold validTo; rw [List.take_succ_eq_append_getElem h, List.all_append]; simp only [List.all_cons, List.all_nil, Bool.and_true, Bool.and_assoc]
theorem validTo_all (p : Prf) (k : Nat) (h : ¬ k < p.aunts.length) : validTo p k = valid p := by
  unfold validTo valid; rw [List.take_of_length_le (by omega)]

set_option maxHeartbeats 800000 in
theorem specValid_any (v : Value) (p : Prf) (w : World) (h : PrfV w v p) :
    Calls Tryd.prog 14 #[v] w fun e w' => e = .returned (.bool (valid p)) ∧ Keep w w' := by
  obtain ⟨lv, av, rfl, ⟨A0, c0, rfl, g1, g2, g3, _⟩, ha, b1, b2, b3, b4⟩ := h
  have k1 : Keep w (w.alloc (.cells #[.int .i64 p.total, .int .i64 p.index, .slice A0 p.leaf.length c0, av] 28)) := (Kp.refl _ _).alloc _
  obtain ⟨A, c, rfl, h1, h2, h3, h4⟩ := ha
  unfold maxLen at h2 g2
  have e0 : validTo p 0 = (decide (0 ≤ p.total) && decide (0 ≤ p.index) && decide (p.leaf.length = 32) && decide (p.aunts.length ≤ 100)) := by simp [validTo]
  have E0 := Lib.hid e0
  clear e0
  have H4 := Lib.hid h4
  clear h4
  rcases (show (¬ 0 ≤ p.total) ∨ (0 ≤ p.total ∧ ¬ 0 ≤ p.index) ∨ (0 ≤ p.total ∧ 0 ≤ p.index ∧ ¬ p.leaf.length = 32) ∨ (0 ≤ p.total ∧ 0 ≤ p.index ∧ p.leaf.length = 32 ∧ ¬ p.aunts.length ≤ 100) ∨ (0 ≤ p.total ∧ 0 ≤ p.index ∧ p.leaf.length = 32 ∧ p.aunts.length ≤ 100) from by omega) with q1 | ⟨q1, q2⟩ | ⟨q1, q2, q3⟩ | ⟨q1, q2, q3, q4⟩ | ⟨q1, q2, q3, q4⟩
  all_goals
    go_enter Tryd.func14, Tryd.ntmps14
    go_wp2
    go_loop [3, 29] (fun t i => ∃ k : Nat, k ≤ p.aunts.length ∧ i = .int .i64 k ∧ t = .bool (validTo p k)) (fun _ i => p.aunts.length - (intOf i).toNat)
    case atStart => exact ⟨0, Nat.zero_le _, rfl, congrArg Value.bool (by rw [E0.out]; first | (simp [*]; done) | (simp [*]; omega))⟩
    case round =>
      obtain ⟨k, hk, rfl, rfl⟩ := hrel
      by_cases hlt : k < p.aunts.length
      · obtain ⟨b, off, rfl, hc⟩ := H4.out (by omega)
        obtain ⟨u, hu, A', c', rfl, _, _, _, _⟩ := hc k hlt
        clear hc H4
        have hu' := k1.cell_of hu (fun x => x)
        have hblk := World.block_lt_of_cell? _ _ hu
        have HS := Lib.hid (validTo_succ p k hlt)
        cases hv : validTo p k
        all_goals
          rw [hv] at HS
          have HV := Lib.hid hv
          clear hv
          by_cases hs : (p.aunts[k]'hlt).length = 32
          all_goals
            go_wp2
            go_round
            case rel => exact ⟨k + 1, by omega, by go_num, congrArg Value.bool (by rw [HS.out]; first | (simp [hs]; done) | (simp [hs]; omega))⟩
            case measure => simp [intOf]; omega
      · have HS := Lib.hid (validTo_all p k hlt)
        go_wp2
        go_ret
        exact ⟨ret_b HS.out, (Kp.refl _ _).alloc _⟩

/-- an error that is there, or none -/
def ErrIs (bad : Bool) (v : Value) : Prop := if bad then ∃ t x, v = .iface t x else v = .nilIface
theorem ErrIs.yes {t : TypeId} {x : Value} : ErrIs true (.iface t x) := ⟨t, x, rfl⟩
theorem ErrIs.no : ErrIs false .nilIface := rfl

/-- what a proof is, as numbers, in cells: the package's own Proof -/
def PrfAt (w : World) (b : Nat) (p : Prf) : Prop :=
  ∃ lv av, w.cell? ⟨b, 0, none⟩ = some (.int .i64 p.total) ∧ w.cell? ⟨b, 1, none⟩ = some (.int .i64 p.index) ∧ w.cell? ⟨b, 2, none⟩ = some lv ∧ w.cell? ⟨b, 3, none⟩ = some av ∧ Byts w lv p.leaf ∧ Mat w av p.aunts ∧
    -9223372036854775808 ≤ p.total ∧ p.total ≤ 9223372036854775807 ∧ -9223372036854775808 ≤ p.index ∧ p.index ≤ 9223372036854775807

set_option maxHeartbeats 800000 in
theorem validate_any (b : Nat) (p : Prf) (w : World) (h : PrfAt w b p) (t0 : TypeId) (x0 : Value) (hg : w.cell? ⟨0, 0, none⟩ = some (.iface t0 x0)) :
    Calls Tryd.prog 82 #[.pointer (some ⟨b, 0, none⟩)] w fun e w' => (∃ v, e = .returned v ∧ ErrIs (!valid p) v) ∧ Keep w w' := by
  obtain ⟨lv, av, hc0, hc1, hc2, hc3, ⟨A0, c0, rfl, g1, g2, g3, _⟩, ha, b1, b2, b3, b4⟩ := h
  obtain ⟨A, c, rfl, h1, h2, h3, h4⟩ := ha
  unfold maxLen at h2 g2
  have H4 := Lib.hid h4
  clear h4
  rcases (show (¬ 0 ≤ p.total) ∨ (0 ≤ p.total ∧ ¬ 0 ≤ p.index) ∨ (0 ≤ p.total ∧ 0 ≤ p.index ∧ ¬ p.leaf.length = 32) ∨ (0 ≤ p.total ∧ 0 ≤ p.index ∧ p.leaf.length = 32 ∧ ¬ p.aunts.length ≤ 100) ∨ (0 ≤ p.total ∧ 0 ≤ p.index ∧ p.leaf.length = 32 ∧ p.aunts.length ≤ 100) from by omega) with q1 | ⟨q1, q2⟩ | ⟨q1, q2, q3⟩ | ⟨q1, q2, q3, q4⟩ | ⟨q1, q2, q3, q4⟩
  case inr.inr.inr.inr =>
    have hv0 : ∀ k, validTo p k = (p.aunts.take k).all fun b => decide (b.length = 32) := fun k => by unfold validTo; simp [q1, q2, q3, q4]
    have HV0 := Lib.hid hv0
    have Q3 := Lib.hid q3
    clear hv0
    go_enter Tryd.func82, Tryd.ntmps82
    go_wp2
    clear q3
    go_loop [42] (fun i => ∃ k : Nat, k ≤ p.aunts.length ∧ i = .int .i64 k ∧ validTo p k = true) (fun i => p.aunts.length - (intOf i).toNat)
    case atStart => exact ⟨0, Nat.zero_le _, rfl, by rw [HV0.out]; simp⟩
    case round =>
      obtain ⟨k, hk, rfl, hv⟩ := hrel
      have HV := Lib.hid hv
      clear hv
      by_cases hlt : k < p.aunts.length
      · obtain ⟨b', off, rfl, hc⟩ := H4.out (by omega)
        obtain ⟨u, hu, A', c', rfl, _, _, _, _⟩ := hc k hlt
        clear hc H4
        have HS := Lib.hid (validTo_succ p k hlt)
        by_cases hs : (p.aunts[k]'hlt).length = 32
        · have HQ := Lib.hid (show validTo p (k + 1) = true by rw [HS.out, HV.out]; simp [hs])
          go_wp2
          go_round
          case rel => exact ⟨k + 1, by omega, by go_num, HQ.out⟩
          case measure => simp [intOf]; omega
        · have HQ := Lib.hid (show valid p = false by
            unfold valid
            rw [all_not (fun b : List UInt8 => decide (b.length = 32)) p.aunts k hlt (by simp [hs]), Bool.and_false])
          go_wp2_with (go_at_call 88; refine (errNew_any _ _).mono ?_; rintro e w1 ⟨⟨x, rfl⟩, hk1⟩)
          go_ret
          exact ⟨⟨_, rfl, by rw [HQ.out]; exact ErrIs.yes⟩, hk1⟩
      · have HS := Lib.hid (validTo_all p k hlt)
        go_wp2
        go_ret
        exact ⟨⟨_, rfl, by rw [← HS.out, HV.out]; exact ErrIs.no⟩, Kp.refl _ _⟩
  all_goals
    have HQ := Lib.hid (show valid p = false by unfold valid; simp [*])
    go_enter Tryd.func82, Tryd.ntmps82
    go_wp2_with (go_at_call 88; refine (errNew_any _ _).mono ?_; rintro e w1 ⟨⟨x, rfl⟩, hk1⟩)
    go_ret
    exact ⟨⟨_, rfl, by rw [HQ.out]; exact ErrIs.yes⟩, by first | exact hk1 | exact Kp.refl _ _⟩
end Go.Proofs.YtfodkjpjejoemaaDoor
