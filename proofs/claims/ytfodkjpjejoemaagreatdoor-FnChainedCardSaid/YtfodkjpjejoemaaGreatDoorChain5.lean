
/-
  Chains: an operation's message read back.
  Conditions: the slice reads as the operation's message; the block to be filled holds none yet.
-/
import Derived.Test.YtfodkjpjejoemaaGreatDoorWire2
import Derived.Test.YtfodkjpjejoemaaGreatDoorChain3
import Derived.Test.YtfodkjpjejoemaaGreatDoorZv
import Derived.Test.YtfodkjpjejoemaaGreatDoorZn
namespace Go.Proofs.YtfodkjpjejoemaaGreatDoor
open Go Go.RowKit
attribute [local go_sem ↓] Go.wp_at_zero Go.wp_at_succ

/-- an operation's message that is being filled: its block bm, the box bc -/
def VRd (w : World) (B bm bc : Nat) (kv pv : Value) : Prop :=
  w.heap[bc]? = some (.cells #[.pointer (some ⟨bm, 0, none⟩)] 106 (0, 0)) ∧ w.heap[bm]? = some (.cells #[kv, pv] 83 (0, 0)) ∧ B ≤ bm ∧ B ≤ bc

set_option maxHeartbeats 1000000 in
theorem clo2_key (B bm bc : Nat) (b : List UInt8) (x : Value) (w : World) (h : VRd w B bm bc (.slice none 0 0) (.pointer none)) (hxb : Byts w x b) (hbl : b.length ≤ 4294967296) :
    Calls Tryz.prog 69 #[.int .i64 1, .int .i64 2, .int .u64 b.length, x, .pointer (some ⟨bc, 0, none⟩)] w fun e w' => e = .returned (.bool true) ∧ (∃ kv, VRd w' B bm bc kv (.pointer none) ∧ Own w' B 5 kv (b.map u8v)) ∧ Kp (fun i => B ≤ i) w w' := by
  obtain ⟨hx, hb, hB1, hB2⟩ := h
  have HX := Lib.hid hx
  have HB := Lib.hid hb
  have HV := Lib.hid hxb
  obtain ⟨A, c, rfl, g1, g2, g3, g4⟩ := hxb
  have G3 := Lib.hid g3
  have c0 : w.cell? ⟨bc, 0, none⟩ = some (.pointer (some ⟨bm, 0, none⟩)) := by rw [cell_of_row _ _ _ _ _ _ hx]; rfl
  have c1 : w.cell? ⟨bm, 0, none⟩ = some (.slice none 0 0) := by rw [cell_of_row _ _ _ _ _ _ hb]; rfl
  have f1 : w.frozen? ⟨bm, 0, none⟩ = false := frozen_of_row _ _ _ _ _ hb
  have l1 := lt_of_block hx
  have l2 := lt_of_block hb
  unfold maxLen at g2
  have hne : bc ≠ bm := fun e => by subst e; have h1 := HX.out; rw [HB.out] at h1; simp at h1
  clear hx hb g3 g4
  go_enter Tryz.func69, Tryz.ntmps69
  go_wp2_with fail
  go_region_held3 (fun w' => w'.cell? ⟨bc, 0, none⟩ = some (.pointer (some ⟨bm, 0, none⟩))) (first | go_keep | exact Kp.cell_of HKX.out c0 (fun x => x) | exact ((Kp.refl (fun i => i = bm) w2).setCell (p := ⟨bm, 0, none⟩) (fun _ => rfl) _).cell_of (HKX.out.cell_of c0 (fun x => x)) hne) (first
    | (refine step_app rfl (.tmp 14) (.tmp 15) 24 rfl appB rfl (by first | exact Own.bare _ B _ (by first | omega | (simp; omega)) | exact Own.drew (Own.bare _ B _ (by first | omega | (simp; omega))) | exact Own.drewN (Own.bare _ B _ (by first | omega | (simp; omega))) _) rfl (Src.of_slc u8v (fun _ _ h => h) (HV.out.keep (by repeat (first | exact Kp.refl _ _ | apply Kp.drew | apply Kp.drewN | apply Kp.alloc)))) (one1 _) (fun e => by have h8 := G3.out e; omega) (by simp; omega) (by simp; omega) ?_
       intro v2 w2 h2 hk2 _
       replace h2 : Own w2 B 5 v2 (b.map u8v) := h2
       obtain ⟨A2, c2, rfl, -, -, -, -⟩ := h2.form
       rw [List.length_map] at h2
       have HO2 := Lib.hid h2
       have HKX : Hid (Keep w w2) := Lib.hid (Kp.trans' (by repeat (first | exact Kp.refl _ _ | apply Kp.drew | apply Kp.drewN | apply Kp.alloc)) hk2 (fun i hi e => by replace e : some i = some w.heap.size := e; simp at e; omega))
       have cc1 : w2.cell? ⟨bm, 0, none⟩ = some (.slice none 0 0) := HKX.out.cell_of c1 (fun x => x)
       have ff1 : w2.frozen? ⟨bm, 0, none⟩ = false := (HKX.out.frozen l2 (fun x => x)).trans f1
       clear h2 hk2))
  go_wp2_with fail
  go_ret
  have hb2 : w2.heap[bm]? = some (.cells #[.slice none 0 0, .pointer none] 83 (0, 0)) := (HKX.out.block _ l2 (fun x => x)).trans HB.out
  have hk : Kp (fun i => i = bm) w2 (w2.setCell ⟨bm, 0, none⟩ (.slice A2 b.length c2)) := (Kp.refl (fun i => i = bm) w2).setCell (p := ⟨bm, 0, none⟩) (fun _ => rfl) _
  refine ⟨rfl, ⟨.slice A2 b.length c2, ⟨(hk.block _ (Nat.lt_of_lt_of_le l1 HKX.out.size) hne).trans ((HKX.out.block _ l1 (fun x => x)).trans HX.out), ?_, hB1, hB2⟩, HO2.out.kp_type hb2 (by decide) (fun i _ e => e) hk⟩, (Kp.keep HKX.out).trans' hk (fun i _ e => by replace e : i = bm := e; omega)⟩
  rw [heap_setCell_same _ _ _ _ _ _ hb2]
  simp

theorem RdAt.lower {w : World} {B B' bm bc : Nat} {q : Prf} (h : RdAt w B' bm bc q) (hb : B ≤ B') : RdAt w B bm bc q := by
  obtain ⟨lv, av, us, h1, h2, h3, h4, h5, h6, h7, h8⟩ := h
  exact ⟨lv, av, us, h1, h2, h3.lower hb, h4.lower hb, h5, fun i a b => (h6 i a b).lower hb, by omega, by omega⟩

set_option maxHeartbeats 2000000 in
theorem clo2_prf (B bm bc : Nat) (kv : Value) (k : List UInt8) (p : Prf) (x : Value) (w : World) (h : VRd w B bm bc kv (.pointer none)) (ho : Own w B 5 kv (k.map u8v)) (hxb : Byts w x (msgOf p)) (hs : PrfSm p)
    (b1 : -9223372036854775808 ≤ p.total) (b2 : p.total ≤ 9223372036854775807) (b3 : -9223372036854775808 ≤ p.index) (b4 : p.index ≤ 9223372036854775807) (hn : p.aunts.length ≤ 1000000000) :
    Calls Tryz.prog 69 #[.int .i64 2, .int .i64 2, .int .u64 (msgOf p).length, x, .pointer (some ⟨bc, 0, none⟩)] w fun e w' => e = .returned (.bool true) ∧ (∃ bp bc', VRd w' B bm bc kv (.pointer (some ⟨bp, 0, none⟩)) ∧ Own w' B 5 kv (k.map u8v) ∧ RdAt w' B bp bc' p) ∧ Kp (fun i => B ≤ i) w w' := by
  obtain ⟨hx, hb, hB1, hB2⟩ := h
  have HX := Lib.hid hx
  have HB := Lib.hid hb
  have HV := Lib.hid hxb
  have HO := Lib.hid ho
  have HS := Lib.hid hs
  obtain ⟨bp, hbp⟩ : ∃ bp, bp = w.heap.size := ⟨_, rfl⟩
  have c0 : w.cell? ⟨bc, 0, none⟩ = some (.pointer (some ⟨bm, 0, none⟩)) := by rw [cell_of_row _ _ _ _ _ _ hx]; rfl
  have c1 : w.cell? ⟨bm, 1, none⟩ = some (.pointer none) := by rw [cell_of_row _ _ _ _ _ _ hb]; rfl
  have f1 : w.frozen? ⟨bm, 1, none⟩ = false := frozen_of_row _ _ _ _ _ hb
  have l1 := lt_of_block hx
  have l2 := lt_of_block hb
  have hne : bc ≠ bm := fun e => by subst e; have h1 := HX.out; rw [HB.out] at h1; simp at h1
  obtain ⟨w1, hw1⟩ : ∃ w1, w1 = (w.setCell ⟨bm, 1, none⟩ (.pointer (some ⟨bp, 0, none⟩))).alloc (.cells #[.int .i64 0, .int .i64 0, .slice none 0 0, .slice none 0 0] 105) := ⟨_, rfl⟩
  have hk1 : Kp (fun i => i = bm) w w1 := by rw [hw1]; exact ((Kp.refl (fun i => i = bm) w).setCell (p := ⟨bm, 1, none⟩) (fun _ => rfl) _).alloc _
  have hbA : (w.setCell ⟨bm, 1, none⟩ (.pointer (some ⟨bp, 0, none⟩))).heap[bm]? = some (.cells #[kv, .pointer (some ⟨bp, 0, none⟩)] 83 (0, 0)) := by rw [heap_setCell_same _ _ 1 _ _ _ hb]; simp
  have hb1 : w1.heap[bm]? = some (.cells #[kv, .pointer (some ⟨bp, 0, none⟩)] 83 (0, 0)) := by
    rw [hw1]; exact (Below.heap_alloc _ _ _ (lt_of_block hbA)).trans hbA
  have hx1 : w1.heap[bc]? = some (.cells #[.pointer (some ⟨bm, 0, none⟩)] 106 (0, 0)) := (hk1.block _ l1 hne).trans hx
  have hp1 : w1.heap[bp]? = some (.cells #[.int .i64 0, .int .i64 0, .slice none 0 0, .slice none 0 0] 105 (0, 0)) := by
    have e : (w.setCell ⟨bm, 1, none⟩ (.pointer (some ⟨bp, 0, none⟩))).heap.size = bp := by rw [hbp]; simp
    have h9 := heap_alloc_new (w.setCell ⟨bm, 1, none⟩ (.pointer (some ⟨bp, 0, none⟩))) (.cells #[.int .i64 0, .int .i64 0, .slice none 0 0, .slice none 0 0] 105)
    rw [e] at h9
    rw [hw1]
    exact h9
  have ho1 : Own w1 B 5 kv (k.map u8v) := ho.kp_type hb (by decide) (fun i _ e => e) hk1
  have hkv : ∃ A n c, kv = .slice A n c := by obtain ⟨A, c, h, -⟩ := ho.form; exact ⟨_, _, _, h⟩
  have hxo : Byp w1 (fun i => bp ≤ i) x (msgOf p) := fun wx kx => by
    have hcs : ∀ u ∈ [kv, Value.pointer none], ∀ y, ¬ U8 w u y := fun u hu y hr => by
      have hr' : u = .int .u8 y.toNat := hr
      obtain ⟨_, _, _, rfl⟩ := hkv
      simp at hu
      rcases hu with rfl | rfl <;> simp at hr'
    exact Slc.off (cs := [kv, .pointer none]) hxb hb (fun u hu y hr => hcs u hu y hr) (hk1.trans' kx (fun i hi e => by omega)) fun _ _ h => h
  have UNM := Lib.hid (unmarshal_any bp bp x p w1 hxo hp1 (Nat.le_refl _) b1 b2 b3 b4 hs.leaf hs.aunts hn (by have := hs.msg; omega))
  have HW1 := Lib.hid hw1
  have HBP := Lib.hid hbp
  have HK1 := Lib.hid hk1
  have HB1 := Lib.hid hb1
  have HX1 := Lib.hid hx1
  have HO1 := Lib.hid ho1
  have d0 : w1.cell? ⟨bc, 0, none⟩ = some (.pointer (some ⟨bm, 0, none⟩)) := by rw [cell_of_row _ _ _ _ _ _ hx1]; rfl
  have d1 : w1.cell? ⟨bm, 1, none⟩ = some (.pointer (some ⟨bp, 0, none⟩)) := by rw [cell_of_row _ _ _ _ _ _ hb1]; rfl
  have l3 := lt_of_block hb1
  obtain ⟨A, c, rfl, -, -, -, -⟩ := hxb
  clear hx hb ho hs hw1 hk1 hbA hb1 hx1 hp1 ho1 hkv hxo hbp
  go_enter Tryz.func69, Tryz.ntmps69
  go_wp2_with (go_at_call 70
               rw [← HBP.out, ← HW1.out]
               refine UNM.out.mono ?_
               rintro e w2 ⟨rfl, ⟨bc', hr2⟩, hk2⟩
               have HR2 := Lib.hid hr2
               have HK2 := Lib.hid hk2
               clear hr2 hk2)
  go_ret
  have hkb : Kp (fun i => B ≤ i) w w2 := (HK1.out.trans' HK2.out (fun i hi e => by have := HBP.out; omega)).mono fun i _ e => by replace e : i = bm := e; omega
  have hq := HBP.out
  exact ⟨rfl, ⟨bp, bc', ⟨(HK2.out.block _ (lt_of_block HX1.out) (fun e => by omega)).trans HX1.out, (HK2.out.block _ (lt_of_block HB1.out) (fun e => by omega)).trans HB1.out, hB1, hB2⟩, HO1.out.kp HK2.out (fun b hb e => by have h1 := (HO.out.lt _ hb).2; omega), HR2.out.lower (by omega)⟩, hkb⟩
end Go.Proofs.YtfodkjpjejoemaaGreatDoor
