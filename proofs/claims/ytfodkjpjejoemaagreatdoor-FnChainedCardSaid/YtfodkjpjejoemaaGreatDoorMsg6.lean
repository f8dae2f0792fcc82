
/-
  Messages read back: what one field does to the proof that is being filled.
  Conditions: the proof's block, the box that holds its pointer.
-/
import Derived.Test.YtfodkjpjejoemaaGreatDoorMsg5
import Derived.Deep.WholeRow
import Derived.Deep.AppendLies
namespace Go.Proofs.YtfodkjpjejoemaaGreatDoor
open Go Go.RowKit
attribute [local go_sem ↓] Go.wp_at_zero Go.wp_at_succ


/-- a proof that is being filled: its block bm, the box bc; all that it holds lies in blocks from B on -/
def RdAt (w : World) (B bm bc : Nat) (q : Prf) : Prop :=
  ∃ lv av us, w.heap[bc]? = some (.cells #[.pointer (some ⟨bm, 0, none⟩)] 80 (0, 0)) ∧ w.heap[bm]? = some (.cells #[.int .i64 q.total, .int .i64 q.index, lv, av] 105 (0, 0)) ∧
    Own w B 5 lv (q.leaf.map u8v) ∧ Own w B 24 av us ∧ us.length = q.aunts.length ∧ (∀ i (h : i < us.length) (h' : i < q.aunts.length), Own w B 5 us[i] (q.aunts[i].map u8v)) ∧ B ≤ bm ∧ B ≤ bc

set_option maxHeartbeats 1000000 in
theorem clo_num1 (B bm bc n : Nat) (z : Int) (q : Prf) (x : Value) (w : World) (h : RdAt w B bm bc q) (_ : n < 18446744073709551616) (hz : IntKind.i64.wrap (n : Int) = z) :
    Calls Tryz.prog 79 #[.int .i64 1, .int .i64 0, .int .u64 n, x, .pointer (some ⟨bc, 0, none⟩)] w fun e w' => e = .returned (.bool true) ∧ RdAt w' B bm bc { q with total := z } ∧ Kp (fun i => B ≤ i) w w' := by
  obtain ⟨lv, av, us, hx, hb, hl, ha, hul, hus, hB1, hB2⟩ := h
  have HX := Lib.hid hx
  have HB := Lib.hid hb
  have HL := Lib.hid hl
  have HA := Lib.hid ha
  have HUS := Lib.hid hus
  have HUL := Lib.hid hul
  have c0 : w.cell? ⟨bc, 0, none⟩ = some (.pointer (some ⟨bm, 0, none⟩)) := by rw [cell_of_row _ _ _ _ _ _ hx]; rfl
  have c1 : w.cell? ⟨bm, 0, none⟩ = some (.int .i64 q.total) := by rw [cell_of_row _ _ _ _ _ _ hb]; rfl
  have f1 : w.frozen? ⟨bm, 0, none⟩ = false := frozen_of_row _ _ _ _ _ hb
  clear hx hb hl ha hul hus
  go_enter Tryz.func79, Tryz.ntmps79
  go_wp2_with fail
  go_ret
  have hk : Kp (fun i => i = bm) w (w.setCell ⟨bm, 0, none⟩ (.int .i64 z)) := (Kp.refl (fun i => i = bm) w).setCell (p := ⟨bm, 0, none⟩) (fun _ => rfl) _
  have hne : bc ≠ bm := fun e => by subst e; have h1 := HX.out; rw [HB.out] at h1; simp at h1
  refine ⟨rfl, ⟨lv, av, us, (hk.block _ (lt_of_block HX.out) hne).trans HX.out, ?_, HL.out.kp_type HB.out (by decide) (fun i _ e => e) hk, HA.out.kp_type HB.out (by decide) (fun i _ e => e) hk, HUL.out, fun i h h' => (HUS.out i h h').kp_type HB.out (by decide) (fun i _ e => e) hk, hB1, hB2⟩, hk.mono fun i _ e => by omega⟩
  rw [heap_setCell_same _ _ _ _ _ _ HB.out]
  simp
set_option maxHeartbeats 1000000 in
theorem clo_num2 (B bm bc n : Nat) (z : Int) (q : Prf) (x : Value) (w : World) (h : RdAt w B bm bc q) (_ : n < 18446744073709551616) (hz : IntKind.i64.wrap (n : Int) = z) :
    Calls Tryz.prog 79 #[.int .i64 2, .int .i64 0, .int .u64 n, x, .pointer (some ⟨bc, 0, none⟩)] w fun e w' => e = .returned (.bool true) ∧ RdAt w' B bm bc { q with index := z } ∧ Kp (fun i => B ≤ i) w w' := by
  obtain ⟨lv, av, us, hx, hb, hl, ha, hul, hus, hB1, hB2⟩ := h
  have HX := Lib.hid hx
  have HB := Lib.hid hb
  have HL := Lib.hid hl
  have HA := Lib.hid ha
  have HUS := Lib.hid hus
  have HUL := Lib.hid hul
  have c0 : w.cell? ⟨bc, 0, none⟩ = some (.pointer (some ⟨bm, 0, none⟩)) := by rw [cell_of_row _ _ _ _ _ _ hx]; rfl
  have c1 : w.cell? ⟨bm, 1, none⟩ = some (.int .i64 q.index) := by rw [cell_of_row _ _ _ _ _ _ hb]; rfl
  have f1 : w.frozen? ⟨bm, 1, none⟩ = false := frozen_of_row _ _ _ _ _ hb
  clear hx hb hl ha hul hus
  go_enter Tryz.func79, Tryz.ntmps79
  go_wp2_with fail
  go_ret
  have hk : Kp (fun i => i = bm) w (w.setCell ⟨bm, 1, none⟩ (.int .i64 z)) := (Kp.refl (fun i => i = bm) w).setCell (p := ⟨bm, 1, none⟩) (fun _ => rfl) _
  have hne : bc ≠ bm := fun e => by subst e; have h1 := HX.out; rw [HB.out] at h1; simp at h1
  refine ⟨rfl, ⟨lv, av, us, (hk.block _ (lt_of_block HX.out) hne).trans HX.out, ?_, HL.out.kp_type HB.out (by decide) (fun i _ e => e) hk, HA.out.kp_type HB.out (by decide) (fun i _ e => e) hk, HUL.out, fun i h h' => (HUS.out i h h').kp_type HB.out (by decide) (fun i _ e => e) hk, hB1, hB2⟩, hk.mono fun i _ e => by omega⟩
  rw [heap_setCell_same _ _ _ _ _ _ HB.out]
  simp

set_option maxHeartbeats 1000000 in
theorem clo_byt3 (B bm bc : Nat) (b : List UInt8) (q : Prf) (x : Value) (w : World) (h : RdAt w B bm bc q) (hxb : Byts w x b) (hbl : b.length ≤ 4294967296) :
    Calls Tryz.prog 79 #[.int .i64 3, .int .i64 2, .int .u64 b.length, x, .pointer (some ⟨bc, 0, none⟩)] w fun e w' => e = .returned (.bool true) ∧ RdAt w' B bm bc { q with leaf := b } ∧ Kp (fun i => B ≤ i) w w' := by
  obtain ⟨lv, av, us, hx, hb, hl, ha, hul, hus, hB1, hB2⟩ := h
  have HX := Lib.hid hx
  have HB := Lib.hid hb
  have HA := Lib.hid ha
  have HUS := Lib.hid hus
  have HUL := Lib.hid hul
  have HV := Lib.hid hxb
  obtain ⟨A, c, rfl, g1, g2, g3, g4⟩ := hxb
  have G3 := Lib.hid g3
  have c0 : w.cell? ⟨bc, 0, none⟩ = some (.pointer (some ⟨bm, 0, none⟩)) := by rw [cell_of_row _ _ _ _ _ _ hx]; rfl
  have c1 : w.cell? ⟨bm, 2, none⟩ = some lv := by rw [cell_of_row _ _ _ _ _ _ hb]; rfl
  have f1 : w.frozen? ⟨bm, 2, none⟩ = false := frozen_of_row _ _ _ _ _ hb
  have l1 := lt_of_block hx
  have l2 := lt_of_block hb
  unfold maxLen at g2
  have hne : bc ≠ bm := fun e => by subst e; have h1 := HX.out; rw [HB.out] at h1; simp at h1
  clear hx hb hl ha hul hus g3 g4
  go_enter Tryz.func79, Tryz.ntmps79
  go_wp2_with fail
  go_region_held3 (fun w' => w'.cell? ⟨bc, 0, none⟩ = some (.pointer (some ⟨bm, 0, none⟩))) (first | go_keep | exact Kp.cell_of HKX.out c0 (fun x => x) | exact ((Kp.refl (fun i => i = bm) w2).setCell (p := ⟨bm, 2, none⟩) (fun _ => rfl) _).cell_of (HKX.out.cell_of c0 (fun x => x)) hne) (first
    | (refine step_app rfl (.tmp 32) (.tmp 33) 24 rfl appB rfl (by first | exact Own.bare _ B _ (by first | omega | (simp; omega)) | exact Own.drew (Own.bare _ B _ (by first | omega | (simp; omega))) | exact Own.drewN (Own.bare _ B _ (by first | omega | (simp; omega))) _) rfl (Src.of_slc u8v (fun _ _ h => h) (HV.out.keep (by repeat (first | exact Kp.refl _ _ | apply Kp.drew | apply Kp.drewN | apply Kp.alloc)))) (one1 _) (fun e => by have h8 := G3.out e; omega) (by simp; omega) (by simp; omega) ?_
       intro v2 w2 h2 hk2 _
       replace h2 : Own w2 B 5 v2 (b.map u8v) := h2
       obtain ⟨A2, c2, rfl, -, -, -, -⟩ := h2.form
       rw [List.length_map] at h2
       have HO2 := Lib.hid h2
       have HKX : Hid (Keep w w2) := Lib.hid (Kp.trans' (by repeat (first | exact Kp.refl _ _ | apply Kp.drew | apply Kp.drewN | apply Kp.alloc)) hk2 (fun i hi e => by replace e : some i = some w.heap.size := e; simp at e; omega))
       have cc1 : w2.cell? ⟨bm, 2, none⟩ = some lv := HKX.out.cell_of c1 (fun x => x)
       have ff1 : w2.frozen? ⟨bm, 2, none⟩ = false := (HKX.out.frozen l2 (fun x => x)).trans f1
       clear h2 hk2))
  go_wp2_with fail
  go_ret
  have hb2 : w2.heap[bm]? = some (.cells #[.int .i64 q.total, .int .i64 q.index, lv, av] 105 (0, 0)) := (HKX.out.block _ l2 (fun x => x)).trans HB.out
  have hk : Kp (fun i => i = bm) w2 (w2.setCell ⟨bm, 2, none⟩ (.slice A2 b.length c2)) := (Kp.refl (fun i => i = bm) w2).setCell (p := ⟨bm, 2, none⟩) (fun _ => rfl) _
  refine ⟨rfl, ⟨.slice A2 b.length c2, av, us, (hk.block _ (Nat.lt_of_lt_of_le l1 HKX.out.size) hne).trans ((HKX.out.block _ l1 (fun x => x)).trans HX.out), ?_, HO2.out.kp_type hb2 (by decide) (fun i _ e => e) hk, (HA.out.keep HKX.out).kp_type hb2 (by decide) (fun i _ e => e) hk, HUL.out, fun i h h' => ((HUS.out i h h').keep HKX.out).kp_type hb2 (by decide) (fun i _ e => e) hk, hB1, hB2⟩, (Kp.keep HKX.out).trans' hk (fun i _ e => by replace e : i = bm := e; omega)⟩
  rw [heap_setCell_same _ _ _ _ _ _ hb2]
  simp

set_option maxHeartbeats 2000000 in
theorem clo_byt4 (B bm bc : Nat) (b : List UInt8) (q : Prf) (x : Value) (w : World) (h : RdAt w B bm bc q) (hxb : Byts w x b) (hbl : b.length ≤ 4294967296) (hql : q.aunts.length ≤ 1099511627) :
    Calls Tryz.prog 79 #[.int .i64 4, .int .i64 2, .int .u64 b.length, x, .pointer (some ⟨bc, 0, none⟩)] w fun e w' => e = .returned (.bool true) ∧ RdAt w' B bm bc { q with aunts := q.aunts ++ [b] } ∧ Kp (fun i => B ≤ i) w w' := by
  obtain ⟨lv, av, us, hx, hb, hl, ha, hul, hus, hB1, hB2⟩ := h
  have HX := Lib.hid hx
  have HB := Lib.hid hb
  have HL := Lib.hid hl
  have HA := Lib.hid ha
  have HUS := Lib.hid hus
  have HUL := Lib.hid hul
  have HV := Lib.hid hxb
  obtain ⟨A, c, rfl, g1, g2, g3, g4⟩ := hxb
  have G3 := Lib.hid g3
  obtain ⟨A1, c1, rfl, -, -, -, -⟩ := ha.form
  have c0 : w.cell? ⟨bc, 0, none⟩ = some (.pointer (some ⟨bm, 0, none⟩)) := by rw [cell_of_row _ _ _ _ _ _ hx]; rfl
  have c3 : w.cell? ⟨bm, 3, none⟩ = some (.slice A1 us.length c1) := by rw [cell_of_row _ _ _ _ _ _ hb]; rfl
  have f1 : w.frozen? ⟨bm, 3, none⟩ = false := frozen_of_row _ _ _ _ _ hb
  have l1 := lt_of_block hx
  have l2 := lt_of_block hb
  have hul2 : us.length ≤ 1099511627 := by omega
  unfold maxLen at g2
  have hne : bc ≠ bm := fun e => by subst e; have h1 := HX.out; rw [HB.out] at h1; simp at h1
  have hav : ∀ g, (Value.slice A1 us.length c1).ownBlock = some g → g ≠ bm ∧ g ≠ bc := fun g hg => by
    obtain ⟨_, cur, hh⟩ := ha.block hg
    constructor
    · intro e; subst e; rw [hb] at hh; simp at hh
    · intro e; subst e; rw [hx] at hh; simp at hh
  have HAV := Lib.hid hav
  clear hx hb hl ha hul hus g3 g4 hav
  go_enter Tryz.func79, Tryz.ntmps79
  go_wp2_with fail
  go_region_law (first
    | (refine step_app rfl (.tmp 46) (.tmp 47) 24 rfl appB rfl (by first | exact Own.bare _ B _ (by first | omega | (simp; omega)) | exact Own.drew (Own.bare _ B _ (by first | omega | (simp; omega))) | exact Own.drewN (Own.bare _ B _ (by first | omega | (simp; omega))) _) rfl (Src.of_slc u8v (fun _ _ h => h) (HV.out.keep (by repeat (first | exact Kp.refl _ _ | apply Kp.drew | apply Kp.drewN | apply Kp.alloc)))) (one1 _) (fun e => by have h8 := G3.out e; omega) (by simp; omega) (by simp; omega) ?_
       intro v2 w2 h2 hk2 _
       replace h2 : Own w2 B 5 v2 (b.map u8v) := h2
       obtain ⟨A2, c2, rfl, -, -, -, -⟩ := h2.form
       rw [List.length_map] at h2
       have HO2 := Lib.hid h2
       have HKX : Hid (Keep w w2) := Lib.hid (Kp.trans' (by repeat (first | exact Kp.refl _ _ | apply Kp.drew | apply Kp.drewN | apply Kp.alloc)) hk2 (fun i hi e => by replace e : some i = some w.heap.size := e; simp at e; omega))
       have cc3 : w2.cell? ⟨bm, 3, none⟩ = some (.slice A1 us.length c1) := HKX.out.cell_of c3 (fun x => x)
       have ff1 : w2.frozen? ⟨bm, 3, none⟩ = false := (HKX.out.frozen l2 (fun x => x)).trans f1
       have ll2 : bm < w2.heap.size := Nat.lt_of_lt_of_le l2 HKX.out.size
       have ll3 : bc < w2.heap.size := Nat.lt_of_lt_of_le l1 HKX.out.size
       have cc0 : w2.cell? ⟨bc, 0, none⟩ = some (.pointer (some ⟨bm, 0, none⟩)) := HKX.out.cell_of c0 (fun x => x)
       clear h2 hk2)
    | (refine step_app rfl (.tmp 45) (.tmp 49) 22 rfl appM rfl (by first | exact (HA.out.keep HKX.out).alloc _ | exact Own.drew ((HA.out.keep HKX.out).alloc _) | exact Own.drewN ((HA.out.keep HKX.out).alloc _) _) rfl (news := [.slice A2 b.length c2]) (Src.one (by simp)) (by intro u hu; simp at hu; subst hu; rfl) (fun e => by cases e) (by first | omega | (simp; omega)) (by have h9 := HKX.out.size; first | omega | (simp; omega)) ?_
       intro v4 w4 h4 hk4 _
       replace hk4 : Kp (fun k => some k = (Value.slice A1 us.length c1).ownBlock) _ w4 := hk4
       obtain ⟨A4, c4, rfl, -, -, -, -⟩ := h4.form
       rw [List.length_append, List.length_singleton] at h4
       have HO4 := Lib.hid h4
       have hky : Kp (fun k => some k = (Value.slice A1 us.length c1).ownBlock) w2 w4 := Kp.trans' (by repeat (first | exact Kp.refl _ _ | apply Kp.drew | apply Kp.drewN | apply Kp.alloc)) hk4 (fun i hi e => e)
       have HKY := Lib.hid hky
       have cc4 : w4.cell? ⟨bm, 3, none⟩ = some (.slice A1 us.length c1) := hky.cell_of cc3 (fun e => (HAV.out _ e.symm).1 rfl)
       have ff4 : w4.frozen? ⟨bm, 3, none⟩ = false := (hky.frozen (Nat.lt_of_lt_of_le l2 HKX.out.size) (fun e => (HAV.out _ e.symm).1 rfl)).trans ff1
       have cc40 : w4.cell? ⟨bc, 0, none⟩ = some (.pointer (some ⟨bm, 0, none⟩)) := HKY.out.cell_of cc0 (fun e => (HAV.out _ e.symm).2 rfl)
       clear h4 hk4 hky))
  all_goals
    go_wp2_with fail
    go_ret
    have hav2 := HA.out.keep HKX.out
    have hb4 : w4.heap[bm]? = some (.cells #[.int .i64 q.total, .int .i64 q.index, lv, .slice A1 us.length c1] 105 (0, 0)) := (HKY.out.block _ ll2 (fun e => (HAV.out _ e.symm).1 rfl)).trans ((HKX.out.block _ l2 (fun x => x)).trans HB.out)
    have hx4 := (HKY.out.block _ ll3 (fun e => (HAV.out _ e.symm).2 rfl)).trans ((HKX.out.block _ l1 (fun x => x)).trans HX.out)
    have hk : Kp (fun i => i = bm) w4 (w4.setCell ⟨bm, 3, none⟩ (.slice A4 (us.length + 1) c4)) := (Kp.refl (fun i => i = bm) w4).setCell (p := ⟨bm, 3, none⟩) (fun _ => rfl) _
    refine ⟨rfl, ⟨lv, .slice A4 (us.length + 1) c4, us ++ [.slice A2 b.length c2], (hk.block _ (lt_of_block hx4) hne).trans hx4, ?_, ((HL.out.keep HKX.out).kp_own hav2 (by decide) HKY.out).kp_type hb4 (by decide) (fun i _ e => e) hk, HO4.out.kp_type hb4 (by decide) (fun i _ e => e) hk, by simp [HUL.out], ?_, hB1, hB2⟩, ((Kp.keep HKX.out).trans' HKY.out (fun i _ e => (HA.out.block e.symm).1)).trans' hk (fun i _ e => by replace e : i = bm := e; omega)⟩
    · rw [heap_setCell_same _ _ _ _ _ _ hb4]
      simp
    · intro i h h'
      rcases getElem_snoc us (.slice A2 b.length c2) i h with ⟨h1, e1⟩ | ⟨h1, e1⟩
      · have h2 : i < q.aunts.length := by rw [← HUL.out]; exact h1
        have e2 : (q.aunts ++ [b])[i] = q.aunts[i] := List.getElem_append_left h2
        simp only [e1, e2]
        exact (((HUS.out i h1 h2).keep HKX.out).kp_own hav2 (by decide) HKY.out).kp_type hb4 (by decide) (fun i _ e => e) hk
      · have e2 : (q.aunts ++ [b])[i] = b := by
          rcases getElem_snoc q.aunts b i h' with ⟨h3, _⟩ | ⟨_, e3⟩
          · rw [← HUL.out] at h3; omega
          · exact e3
        simp only [e1, e2]
        exact (HO2.out.kp_own hav2 (by decide) HKY.out).kp_type hb4 (by decide) (fun i _ e => e) hk
end Go.Proofs.YtfodkjpjejoemaaGreatDoor
