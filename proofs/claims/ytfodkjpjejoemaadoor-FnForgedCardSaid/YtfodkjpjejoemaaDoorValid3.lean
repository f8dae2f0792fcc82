/-
  The parts of 'FnValid': the thin calls, and the law's own walk.
  Conditions: the argument reads as two numbers and lists of bytes in the world of the call; the package's own error is an error.
-/
import Derived.Test.YtfodkjpjejoemaaDoorValid2
import Derived.Deep.RegionHeld3
import Derived.Deep.DrawnRows
namespace Go.Proofs.YtfodkjpjejoemaaDoor
open Go Go.RowKit
attribute [local go_sem ↓] Go.wp_at_zero Go.wp_at_succ

theorem implProof_any (v : Value) (p : Prf) (w : World) (h : PrfV w v p) :
    Calls Tryd.prog 48 #[v] w fun e w' => e = .returned v ∧ Keep w w' := by
  obtain ⟨lv, av, rfl, ⟨A0, c0, rfl, g1, g2, g3, _⟩, ⟨A, c, rfl, h1, h2, h3, h4⟩, b1, b2, b3, b4⟩ := h
  go_enter Tryd.func48, Tryd.ntmps48
  go_wp2
  refine bodyPost_ret (v := .agg #[.int .i64 p.total, .int .i64 p.index, .slice A0 p.leaf.length c0, .slice A p.aunts.length c]) (by simp [results, Tryd.results48, go_sem]) rfl ⟨rfl, ?_⟩
  exact ((Kp.refl _ _).alloc _).alloc _

theorem lawsOurs_any (v : Value) (p : Prf) (w : World) (h : PrfV w v p) :
    Calls Tryd.prog 15 #[v] w fun e w' => e = .returned v ∧ Keep w w' := by
  obtain ⟨lv, av, rfl, ⟨A0, c0, rfl, g1, g2, g3, _⟩, ⟨A, c, rfl, h1, h2, h3, h4⟩, b1, b2, b3, b4⟩ := h
  go_enter Tryd.func15, Tryd.ntmps15
  go_wp2
  refine bodyPost_ret (v := .agg #[.int .i64 p.total, .int .i64 p.index, .slice A0 p.leaf.length c0, .slice A p.aunts.length c]) (by simp [results, Tryd.results15, go_sem]) rfl ⟨rfl, ?_⟩
  exact ((Kp.refl _ _).alloc _).alloc _

theorem mValid_any (v : Value) (p : Prf) (w : World) (h : PrfV w v p) (t0 : TypeId) (x0 : Value) (hg : w.cell? ⟨0, 0, none⟩ = some (.iface t0 x0)) :
    Calls Tryd.prog 47 #[v] w fun e w' => e = .returned (.bool (valid p)) ∧ Keep w w' := by
  obtain ⟨lv, av, rfl, hl, ha, b1, b2, b3, b4⟩ := h
  have hk0 : Keep w (w.alloc (.cells #[.int .i64 p.total, .int .i64 p.index, lv, av] 76)) := (Kp.refl _ _).alloc _
  have HV := Lib.hid (validate_any w.heap.size p (w.alloc (.cells #[.int .i64 p.total, .int .i64 p.index, lv, av] 76))
    ⟨lv, av, by simp, by simp, by simp, by simp, hl.keep hk0, ha.keep hk0, b1, b2, b3, b4⟩ t0 x0 (hk0.cell_of hg (fun x => x)))
  clear hl ha
  cases hv : valid p
  all_goals
    have HB := Lib.hid hv
    clear hv
    go_enter Tryd.func47, Tryd.ntmps47
    go_wp2_with (go_at_call 82; refine HV.out.mono ?_; rintro e w1 ⟨⟨v, rfl, hr⟩, hk1⟩; rw [HB.out] at hr; first | (obtain ⟨t, x, rfl⟩ := hr) | (obtain rfl := hr))
    go_ret
    exact ⟨rfl, hk0.trans hk1⟩

theorem implValid_any (v : Value) (p : Prf) (w : World) (h : PrfV w v p) (t0 : TypeId) (x0 : Value) (hg : w.cell? ⟨0, 0, none⟩ = some (.iface t0 x0)) :
    Calls Tryd.prog 13 #[v] w fun e w' => e = .returned (.bool (valid p)) ∧ Keep w w' := by
  obtain ⟨lv, av, rfl, hl, ha, b1, b2, b3, b4⟩ := h
  have hk0 : Keep w (w.alloc (.cells #[.int .i64 p.total, .int .i64 p.index, lv, av] 25)) := (Kp.refl _ _).alloc _
  have hp : PrfV (w.alloc (.cells #[.int .i64 p.total, .int .i64 p.index, lv, av] 25)) (.agg #[.int .i64 p.total, .int .i64 p.index, lv, av]) p := ⟨lv, av, rfl, hl.keep hk0, ha.keep hk0, b1, b2, b3, b4⟩
  have HP := Lib.hid hp
  have HG := Lib.hid (hk0.cell_of hg (fun x => x))
  have HI := Lib.hid (implProof_any _ p _ hp)
  clear hl ha hp
  go_enter Tryd.func13, Tryd.ntmps13
  go_wp2_with (first
    | (go_at_call 48; refine HI.out.mono ?_; rintro e w1 ⟨rfl, hk1⟩)
    | (go_at_call 47; refine (mValid_any _ p _ (HP.out.keep hk1) t0 x0 (hk1.cell_of HG.out (fun x => x))).mono ?_; rintro e w2 ⟨rfl, hk2⟩))
  go_ret
  exact ⟨rfl, (hk0.trans hk1).trans hk2⟩

set_option maxHeartbeats 800000 in
theorem fnValid_walk (v : Value) (p : Prf) (w : World) (h : PrfV w v p) (t0 : TypeId) (x0 : Value) (hg : w.cell? ⟨0, 0, none⟩ = some (.iface t0 x0)) :
    Calls Tryd.prog 3 #[v] w fun e w' => e = .returned (.bool true) ∧ Keep w w' := by
  obtain ⟨lv, av, rfl, hl, ha, b1, b2, b3, b4⟩ := h
  have hk0 : Keep w (w.alloc (.cells #[.int .i64 p.total, .int .i64 p.index, lv, av] 25)) := (Kp.refl _ _).alloc _
  have hp : PrfV (w.alloc (.cells #[.int .i64 p.total, .int .i64 p.index, lv, av] 25)) (.agg #[.int .i64 p.total, .int .i64 p.index, lv, av]) p := ⟨lv, av, rfl, hl.keep hk0, ha.keep hk0, b1, b2, b3, b4⟩
  have HP := Lib.hid hp
  have HG := Lib.hid (hk0.cell_of hg (fun x => x))
  have HF := Lib.hid (zzFits2_any _ p _ hp)
  clear hl ha hp
  cases hf : fits2 p
  · have HB := Lib.hid hf
    go_enter Tryd.func3, Tryd.ntmps3
    go_wp2_with (first
      | (go_at_call 12; refine HF.out.mono ?_; rintro e w1 ⟨rfl, hk1⟩; rw [HB.out]))
    go_ret
    exact ⟨rfl, hk0.trans hk1⟩
  · have HB := Lib.hid hf
    clear hf
    go_enter Tryd.func3, Tryd.ntmps3
    go_wp2_with (first
      | (go_at_call 12; refine HF.out.mono ?_; rintro e w1 ⟨rfl, hk1⟩; rw [HB.out]))
    have hc0 : w1.cell? ⟨w.heap.size, 0, none⟩ = some (.int .i64 p.total) := hk1.cell_of (by simp) (fun x => x)
    have hc1 : w1.cell? ⟨w.heap.size, 1, none⟩ = some (.int .i64 p.index) := hk1.cell_of (by simp) (fun x => x)
    have hc2 : w1.cell? ⟨w.heap.size, 2, none⟩ = some lv := hk1.cell_of (by simp) (fun x => x)
    have hc3 : w1.cell? ⟨w.heap.size, 3, none⟩ = some av := hk1.cell_of (by simp) (fun x => x)
    have HP1 := Lib.hid (HP.out.keep hk1)
    have HG1 := Lib.hid (hk1.cell_of HG.out (fun x => x))
    go_region_held3 (fun w' => Keep w1 w' ∧ w'.cell? ⟨w.heap.size, 0, none⟩ = some (.int .i64 p.total) ∧ w'.cell? ⟨w.heap.size, 1, none⟩ = some (.int .i64 p.index) ∧ w'.cell? ⟨w.heap.size, 2, none⟩ = some lv ∧ w'.cell? ⟨w.heap.size, 3, none⟩ = some av)
      (first
        | exact ⟨(Kp.refl _ _).drew, by assumption, by assumption, by assumption, by assumption⟩
        | (go_split_ands; exact ⟨Kp.trans (by assumption) (by assumption), Kp.cell_of (by assumption) (by assumption) (fun x => x), Kp.cell_of (by assumption) (by assumption) (fun x => x), Kp.cell_of (by assumption) (by assumption) (fun x => x), Kp.cell_of (by assumption) (by assumption) (fun x => x)⟩)
        | (go_split_ands; exact ⟨by assumption, by assumption, by assumption, by assumption, by assumption⟩))
      (first
        | (go_at_call 13; go_split_ands; refine (implValid_any _ p _ (HP1.out.keep (by assumption)) t0 x0 (Kp.cell_of (by assumption) HG1.out (fun x => x))).mono ?_; rintro e w2 ⟨rfl, hk2⟩)
        | (go_at_call 15; go_split_ands; refine (lawsOurs_any _ p _ (HP1.out.keep (by assumption))).mono ?_; rintro e w3 ⟨rfl, hk3⟩)
        | (go_at_call 14; go_split_ands; refine (specValid_any _ p _ (HP1.out.keep (by assumption))).mono ?_; rintro e w4 ⟨rfl, hk4⟩))
    go_split_ands
    go_wp2
    go_ret
    exact ⟨ret_b (by simp), (hk0.trans hk1).trans (by assumption)⟩
end Go.Proofs.YtfodkjpjejoemaaDoor
