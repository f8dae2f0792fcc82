/-
  Messages read back: the proof checked and handed on, ReadMessage.
  Conditions: the slice reads as the proof's message.
-/
import Derived.Test.YtfodkjpjejoemaaDoorMsg7
namespace Go.Proofs.YtfodkjpjejoemaaDoor
open Go Go.RowKit
attribute [local go_sem ↓] Go.wp_at_zero Go.wp_at_succ

/-- the two slices of a proof, each in blocks of its own from B on -/
def RdV (w : World) (B : Nat) (lv av : Value) (p : Prf) : Prop :=
  ∃ us, Own w B 5 lv (p.leaf.map u8v) ∧ Own w B 22 av us ∧ us.length = p.aunts.length ∧ (∀ i (h : i < us.length) (h' : i < p.aunts.length), Own w B 5 us[i] (p.aunts[i].map u8v))
theorem RdV.keep {w w' : World} {B : Nat} {lv av : Value} {p : Prf} (h : RdV w B lv av p) (k : Keep w w') : RdV w' B lv av p := by
  obtain ⟨us, h1, h2, h3, h4⟩ := h
  exact ⟨us, h1.keep k, h2.keep k, h3, fun i hi hi' => (h4 i hi hi').keep k⟩
theorem RdV.other {w w' : World} {B b : Nat} {cs : Array Value} {lv av : Value} {p : Prf} (h : RdV w B lv av p) (hb : w.heap[b]? = some (.cells cs 25 (0, 0))) (k : Kp (fun i => i = b) w w') : RdV w' B lv av p := by
  obtain ⟨us, h1, h2, h3, h4⟩ := h
  exact ⟨us, h1.kp_type hb (by decide) (fun i _ e => e) k, h2.kp_type hb (by decide) (fun i _ e => e) k, h3, fun i hi hi' => (h4 i hi hi').kp_type hb (by decide) (fun i _ e => e) k⟩
theorem RdV.read {w : World} {B : Nat} {lv av : Value} {p : Prf} (h : RdV w B lv av p) : Byts w lv p.leaf ∧ Mat w av p.aunts := by
  obtain ⟨us, hl, ha, hul, hus⟩ := h
  exact ⟨hl.slc_map u8v (fun _ _ => rfl), ha.slc hul fun i hi hi' => (hus i hi hi').slc_map u8v (fun _ _ => rfl)⟩
theorem RdAt.read {w : World} {B bm bc : Nat} {p : Prf} (h : RdAt w B bm bc p) : ∃ lv av, w.heap[bm]? = some (.cells #[.int .i64 p.total, .int .i64 p.index, lv, av] 90 (0, 0)) ∧ RdV w B lv av p := by
  obtain ⟨lv, av, us, _, hb, hl, ha, hul, hus, _, _⟩ := h
  exact ⟨lv, av, hb, us, hl, ha, hul, hus⟩

set_option maxHeartbeats 1000000 in
theorem fromProto_any (bm : Nat) (p : Prf) (w : World) (lv av : Value) (hb : w.heap[bm]? = some (.cells #[.int .i64 p.total, .int .i64 p.index, lv, av] 90 (0, 0))) (hl : Byts w lv p.leaf) (ha : Mat w av p.aunts)
    (b1 : -9223372036854775808 ≤ p.total) (b2 : p.total ≤ 9223372036854775807) (b3 : -9223372036854775808 ≤ p.index) (b4 : p.index ≤ 9223372036854775807)
    (t0 : TypeId) (x0 : Value) (hg : w.cell? ⟨0, 0, none⟩ = some (.iface t0 x0)) :
    Calls Tryd.prog 57 #[.pointer (some ⟨bm, 0, none⟩)] w fun e w' => (∃ v b', e = .returned (.tuple #[.pointer (some ⟨b', 0, none⟩), v]) ∧ ErrIs (!valid p) v ∧ w'.cell? ⟨b', 0, none⟩ = some (.int .i64 p.total) ∧ w'.cell? ⟨b', 1, none⟩ = some (.int .i64 p.index) ∧ w'.cell? ⟨b', 2, none⟩ = some lv ∧ w'.cell? ⟨b', 3, none⟩ = some av) ∧ Keep w w' := by
  have HV := Lib.hid (show PrfV w (.agg #[.int .i64 p.total, .int .i64 p.index, lv, av]) p from ⟨lv, av, rfl, hl, ha, b1, b2, b3, b4⟩)
  obtain ⟨w5, hw5⟩ : ∃ w5, w5 = w.alloc (.cells #[.int .i64 p.total, .int .i64 p.index, lv, av] 76) := ⟨_, rfl⟩
  have hp5 : PrfAt w5 w.heap.size p := by rw [hw5]; exact PrfV.at_new _ HV.out
  have HC5 := Lib.hid (show w5.cell? ⟨w.heap.size, 0, none⟩ = some (.int .i64 p.total) ∧ w5.cell? ⟨w.heap.size, 1, none⟩ = some (.int .i64 p.index) ∧ w5.cell? ⟨w.heap.size, 2, none⟩ = some lv ∧ w5.cell? ⟨w.heap.size, 3, none⟩ = some av by rw [hw5]; simp)
  have hk5 : Keep w w5 := by rw [hw5]; exact (Kp.refl _ _).alloc _
  have VAL := Lib.hid (validate_any w.heap.size p w5 hp5 t0 x0 (hk5.cell_of hg (fun x => x)))
  have HP5 := Lib.hid hp5
  have HK5 := Lib.hid hk5
  have HW5 := Lib.hid hw5
  have c0 : w.cell? ⟨bm, 0, none⟩ = some (.int .i64 p.total) := by rw [cell_of_row _ _ _ _ _ _ hb]; rfl
  have c1 : w.cell? ⟨bm, 1, none⟩ = some (.int .i64 p.index) := by rw [cell_of_row _ _ _ _ _ _ hb]; rfl
  have c2 : w.cell? ⟨bm, 2, none⟩ = some lv := by rw [cell_of_row _ _ _ _ _ _ hb]; rfl
  have c3 : w.cell? ⟨bm, 3, none⟩ = some av := by rw [cell_of_row _ _ _ _ _ _ hb]; rfl
  have lb := lt_of_block hb
  obtain ⟨A0, d0, rfl, -, -, -, -⟩ := hl
  obtain ⟨A1, d1, rfl, -, -, -, -⟩ := ha
  clear hb hg hp5 hk5 hw5
  go_enter Tryd.func57, Tryd.ntmps57
  go_wp2_with (go_at_call 82
               rw [← HW5.out]
               refine VAL.out.mono ?_
               rintro e w2 ⟨⟨v, rfl, he⟩, hk2⟩
               have HE := Lib.hid he
               have HK2 := Lib.hid hk2
               clear he hk2)
  go_ret2
  exact ⟨⟨v, w.heap.size, rfl, HE.out, HK2.out.cell_of HC5.out.1 (fun x => x), HK2.out.cell_of HC5.out.2.1 (fun x => x), HK2.out.cell_of HC5.out.2.2.1 (fun x => x), HK2.out.cell_of HC5.out.2.2.2 (fun x => x)⟩, HK5.out.trans HK2.out⟩

set_option maxHeartbeats 1000000 in
theorem implOurs_any (b : Nat) (p : Prf) (w : World) (lv av : Value) (hl : Byts w lv p.leaf) (ha : Mat w av p.aunts) (c0 : w.cell? ⟨b, 0, none⟩ = some (.int .i64 p.total)) (c1 : w.cell? ⟨b, 1, none⟩ = some (.int .i64 p.index)) (c2 : w.cell? ⟨b, 2, none⟩ = some lv) (c3 : w.cell? ⟨b, 3, none⟩ = some av) :
    Calls Tryd.prog 58 #[.pointer (some ⟨b, 0, none⟩)] w fun e w' => e = .returned (.agg #[.int .i64 p.total, .int .i64 p.index, lv, av]) ∧ Keep w w' := by
  obtain ⟨A0, d0, rfl, -, -, -, -⟩ := hl
  obtain ⟨A1, d1, rfl, -, -, -, -⟩ := ha
  have lb := World.block_lt_of_cell? w _ c0
  simp only at lb
  go_enter Tryd.func58, Tryd.ntmps58
  go_wp2_with fail
  go_region_held3 (fun w' => w'.cell? ⟨b, 0, none⟩ = some (.int .i64 p.total) ∧ w'.cell? ⟨b, 1, none⟩ = some (.int .i64 p.index) ∧ w'.cell? ⟨b, 2, none⟩ = some (.slice A0 p.leaf.length d0) ∧ w'.cell? ⟨b, 3, none⟩ = some (.slice A1 p.aunts.length d1)) (first | go_keep) (first | fail)
  go_wp2_with fail
  have hk : Keep w (w.alloc (Obj.cells #[.int .i64 p.total, .int .i64 p.index, .slice A0 p.leaf.length d0, .slice A1 p.aunts.length d1] 25)).drew := ((Kp.refl _ _).alloc _).drew
  exact bodyPost_ret (v := .agg #[.int .i64 p.total, .int .i64 p.index, .slice A0 p.leaf.length d0, .slice A1 p.aunts.length d1]) (by simp [results, Tryd.results58, go_sem]) rfl ⟨rfl, hk⟩

abbrev zP : Prf := ⟨0, 0, [], []⟩
theorem zP_val (w : World) : PrfV w (.agg #[.int .i64 0, .int .i64 0, .slice none 0 0, .slice none 0 0]) zP := ⟨_, _, rfl, Slc.nil_, Slc.nil_, by simp, by simp, by simp, by simp⟩

set_option maxHeartbeats 1000000 in
theorem readMessage_any (v : Value) (p : Prf) (w : World) (hv : Byts w v (msgOf p)) 
    (b1 : -9223372036854775808 ≤ p.total) (b2 : p.total ≤ 9223372036854775807) (b3 : -9223372036854775808 ≤ p.index) (b4 : p.index ≤ 9223372036854775807) (hl : p.leaf.length ≤ 4294967296) (ha : ∀ a ∈ p.aunts, a.length ≤ 4294967296) (hn : p.aunts.length ≤ 1000000000) (hm : (msgOf p).length ≤ 1099511626000)
    (t0 : TypeId) (x0 : Value) (hg : w.cell? ⟨0, 0, none⟩ = some (.iface t0 x0)) :
    Calls Tryd.prog 20 #[v] w fun e w' => (∃ v' q, e = .returned (.tuple #[v', .bool (valid p)]) ∧ PrfV w' v' q ∧ (valid p = true → q = p)) ∧ Keep w w' := by
  obtain ⟨b0, hb0⟩ : ∃ b, b = w.heap.size := ⟨_, rfl⟩
  obtain ⟨w1, hw1⟩ : ∃ w1, w1 = w.alloc (.cells #[.int .i64 0, .int .i64 0, .slice none 0 0, .slice none 0 0] 25) := ⟨_, rfl⟩
  obtain ⟨w2, hw2⟩ : ∃ w2, w2 = w1.alloc (.cells #[.int .i64 0, .int .i64 0, .slice none 0 0, .slice none 0 0] 90) := ⟨_, rfl⟩
  have hs1 : w1.heap.size = b0 + 1 := by rw [hw1, hb0]; simp
  have hk1 : Keep w w1 := by rw [hw1]; exact (Kp.refl _ _).alloc _
  have hk2 : Keep w w2 := by rw [hw2]; exact hk1.alloc _
  have hz1 : w1.heap[b0]? = some (.cells #[.int .i64 0, .int .i64 0, .slice none 0 0, .slice none 0 0] 25 (0, 0)) := by rw [hw1, hb0]; exact heap_alloc_new _ _
  have hz2 : w2.heap[b0]? = some (.cells #[.int .i64 0, .int .i64 0, .slice none 0 0, .slice none 0 0] 25 (0, 0)) := by rw [hw2, ← hz1]; exact Below.heap_alloc _ _ _ (by omega)
  have hy2 : w2.heap[b0 + 1]? = some (.cells #[.int .i64 0, .int .i64 0, .slice none 0 0, .slice none 0 0] 90 (0, 0)) := by rw [hw2, ← hs1]; exact heap_alloc_new _ _
  have hgl := World.block_lt_of_cell? w _ hg
  simp only at hgl
  have UNM := Lib.hid (unmarshal_any (b0 + 1) (b0 + 1) v p w2 (Byts.byp' (hv.keep hk2) (b0 + 1) (hv.keep hk1) (by rw [hw2]; exact (Kp.refl _ _).alloc _) hs1.symm) hy2 (Nat.le_refl _) b1 b2 b3 b4 hl ha hn hm)
  have HG2 := Lib.hid (hk2.cell_of hg (fun x => x))
  have HK2 := Lib.hid hk2
  have HZ2 := Lib.hid hz2
  have HW1 := Lib.hid hw1
  have HW2 := Lib.hid hw2
  have HB0 := Lib.hid hb0
  have hg0 : 0 < b0 := by omega
  obtain ⟨A, c, rfl, -, -, -, -⟩ := hv
  clear hg hk2 hz2 hw1 hw2 hb0 hy2 hz1 hk1 hs1 hgl ha
  cases hvp : valid p
  all_goals
    have HVP := Lib.hid hvp
    clear hvp
    go_enter Tryd.func20, Tryd.ntmps20
    go_wp2_with (first
      | (go_at_call 56
         rw [← HB0.out, ← HW1.out, ← HW2.out]
         refine UNM.out.mono ?_
         rintro e w3 ⟨rfl, ⟨bc, hr3⟩, hk3⟩
         obtain ⟨lv, av, hb3, hv3⟩ := hr3.read
         have HB3 := Lib.hid hb3
         have HV3 := Lib.hid hv3
         have HK3 := Lib.hid hk3
         clear hr3 hb3 hv3 hk3)
      | (go_at_call 57
         refine (fromProto_any _ p _ lv av HB3.out HV3.out.read.1 HV3.out.read.2 b1 b2 b3 b4 t0 x0 (HK3.out.cell_of HG2.out (fun h => by replace h : b0 + 1 ≤ 0 := h; omega))).mono ?_
         rintro e w4 ⟨⟨ev, b', rfl, he, hp4⟩, hk4⟩
         have HV4 := Lib.hid (HV3.out.keep hk4)
         rw [HVP.out] at he
         first | (obtain ⟨te, xe, rfl⟩ := he) | (obtain rfl := he)
         have HP4 := Lib.hid hp4
         have HK4 := Lib.hid hk4
         have hz4 : w4.heap[b0]? = some (.cells #[.int .i64 0, .int .i64 0, .slice none 0 0, .slice none 0 0] 25 (0, 0)) := (hk4.block _ (Nat.lt_of_lt_of_le (lt_of_block HZ2.out) HK3.out.size) (fun x => x)).trans ((HK3.out.block _ (lt_of_block HZ2.out) (fun h => by omega)).trans HZ2.out)
         have y0 : w4.cell? ⟨b0, 0, none⟩ = some (.int .i64 0) := by rw [cell_of_row _ _ _ _ _ _ hz4]; rfl
         have y1 : w4.cell? ⟨b0, 1, none⟩ = some (.int .i64 0) := by rw [cell_of_row _ _ _ _ _ _ hz4]; rfl
         have y2 : w4.cell? ⟨b0, 2, none⟩ = some (.slice none 0 0) := by rw [cell_of_row _ _ _ _ _ _ hz4]; rfl
         have y3 : w4.cell? ⟨b0, 3, none⟩ = some (.slice none 0 0) := by rw [cell_of_row _ _ _ _ _ _ hz4]; rfl
         have yf : ∀ k, w4.frozen? ⟨b0, k, none⟩ = false := fun k => frozen_of_row _ _ _ _ _ hz4
         have HZ4 := Lib.hid hz4
         clear hp4 hk4 hz4)
      | (go_at_call 58
         refine (implOurs_any b' p _ lv av HV4.out.read.1 HV4.out.read.2 HP4.out.1 HP4.out.2.1 HP4.out.2.2.1 HP4.out.2.2.2).mono ?_
         rintro e w5 ⟨rfl, hk5⟩
         have HV5 := Lib.hid (HV4.out.keep hk5)
         have HK5 := Lib.hid hk5
         have hz5 := (hk5.block _ (lt_of_block HZ4.out) (fun x => x)).trans HZ4.out
         have z0 : w5.cell? ⟨b0, 0, none⟩ = some (.int .i64 0) := by rw [cell_of_row _ _ _ _ _ _ hz5]; rfl
         have z1 : w5.cell? ⟨b0, 1, none⟩ = some (.int .i64 0) := by rw [cell_of_row _ _ _ _ _ _ hz5]; rfl
         have z2 : w5.cell? ⟨b0, 2, none⟩ = some (.slice none 0 0) := by rw [cell_of_row _ _ _ _ _ _ hz5]; rfl
         have z3 : w5.cell? ⟨b0, 3, none⟩ = some (.slice none 0 0) := by rw [cell_of_row _ _ _ _ _ _ hz5]; rfl
         have yf5 : ∀ k, w5.frozen? ⟨b0, k, none⟩ = false := fun k => frozen_of_row _ _ _ _ _ hz5
         have HZ5 := Lib.hid hz5
         obtain ⟨hl5, ha5⟩ := HV5.out.read
         obtain ⟨A5, d5, rfl, -, -, -, -⟩ := hl5
         obtain ⟨A6, d6, rfl, -, -, -, -⟩ := ha5
         clear hk5 hz5))
  · obtain ⟨wF, hwF⟩ : ∃ wF, wF = (((w4.setCell ⟨b0, 0, none⟩ (.int .i64 0)).setCell ⟨b0, 1, none⟩ (.int .i64 0)).setCell ⟨b0, 2, none⟩ (.slice none 0 0)).setCell ⟨b0, 3, none⟩ (.slice none 0 0) := ⟨_, rfl⟩
    rw [← hwF]
    have hnn : ¬ b0 < w.heap.size := by have := HB0.out; omega
    have hzF : wF.heap[b0]? = some (.cells #[.int .i64 0, .int .i64 0, .slice none 0 0, .slice none 0 0] 25 (0, 0)) := by
      rw [hwF, heap_setCell_same _ _ 3 _ _ _ (heap_setCell_same _ _ 2 _ _ _ (heap_setCell_same _ _ 1 _ _ _ (heap_setCell_same _ _ 0 _ _ _ HZ4.out)))]
      simp
    have hkF : Keep w wF := by
      rw [hwF]
      exact ((((((HK2.out.trans' HK3.out (fun i hi h => by have := HB0.out; omega)).trans HK4.out)).setCell (p := ⟨b0, 0, none⟩) (fun h => hnn h) _).setCell (p := ⟨b0, 1, none⟩) (fun h => hnn h) _).setCell (p := ⟨b0, 2, none⟩) (fun h => hnn h) _).setCell (p := ⟨b0, 3, none⟩) (fun h => hnn h) _
    have hk5F : Kp (fun i => i = b0) w4 wF := by
      rw [hwF]
      exact ((((Kp.refl (fun i => i = b0) w4).setCell (p := ⟨b0, 0, none⟩) (fun _ => rfl) _).setCell (p := ⟨b0, 1, none⟩) (fun _ => rfl) _).setCell (p := ⟨b0, 2, none⟩) (fun _ => rfl) _).setCell (p := ⟨b0, 3, none⟩) (fun _ => rfl) _
    have cF0 : wF.cell? ⟨b0, 0, none⟩ = some (.int .i64 0) := by rw [cell_of_row _ _ _ _ _ _ hzF]; rfl
    have cF1 : wF.cell? ⟨b0, 1, none⟩ = some (.int .i64 0) := by rw [cell_of_row _ _ _ _ _ _ hzF]; rfl
    have cF2 : wF.cell? ⟨b0, 2, none⟩ = some (.slice none 0 0) := by rw [cell_of_row _ _ _ _ _ _ hzF]; rfl
    have cF3 : wF.cell? ⟨b0, 3, none⟩ = some (.slice none 0 0) := by rw [cell_of_row _ _ _ _ _ _ hzF]; rfl
    refine bodyPost_ret (v := .tuple #[.agg #[.int .i64 0, .int .i64 0, .slice none 0 0, .slice none 0 0], .bool false]) (by simp [results, Tryd.results20, go_sem, cF0, cF1, cF2, cF3]) rfl ⟨⟨_, zP, rfl, zP_val _, fun e => by cases e⟩, hkF⟩
  · obtain ⟨wF, hwF⟩ : ∃ wF, wF = (((w5.setCell ⟨b0, 0, none⟩ (.int .i64 p.total)).setCell ⟨b0, 1, none⟩ (.int .i64 p.index)).setCell ⟨b0, 2, none⟩ (.slice A5 p.leaf.length d5)).setCell ⟨b0, 3, none⟩ (.slice A6 p.aunts.length d6) := ⟨_, rfl⟩
    rw [← hwF]
    have hnn : ¬ b0 < w.heap.size := by have := HB0.out; omega
    have hzF : wF.heap[b0]? = some (.cells #[.int .i64 p.total, .int .i64 p.index, .slice A5 p.leaf.length d5, .slice A6 p.aunts.length d6] 25 (0, 0)) := by
      rw [hwF, heap_setCell_same _ _ 3 _ _ _ (heap_setCell_same _ _ 2 _ _ _ (heap_setCell_same _ _ 1 _ _ _ (heap_setCell_same _ _ 0 _ _ _ HZ5.out)))]
      simp
    have hkF : Keep w wF := by
      rw [hwF]
      exact ((((((HK2.out.trans' HK3.out (fun i hi h => by have := HB0.out; omega)).trans HK4.out).trans HK5.out).setCell (p := ⟨b0, 0, none⟩) (fun h => hnn h) _).setCell (p := ⟨b0, 1, none⟩) (fun h => hnn h) _).setCell (p := ⟨b0, 2, none⟩) (fun h => hnn h) _).setCell (p := ⟨b0, 3, none⟩) (fun h => hnn h) _
    have hk5F : Kp (fun i => i = b0) w5 wF := by
      rw [hwF]
      exact ((((Kp.refl (fun i => i = b0) w5).setCell (p := ⟨b0, 0, none⟩) (fun _ => rfl) _).setCell (p := ⟨b0, 1, none⟩) (fun _ => rfl) _).setCell (p := ⟨b0, 2, none⟩) (fun _ => rfl) _).setCell (p := ⟨b0, 3, none⟩) (fun _ => rfl) _
    have cF0 : wF.cell? ⟨b0, 0, none⟩ = some (.int .i64 p.total) := by rw [cell_of_row _ _ _ _ _ _ hzF]; rfl
    have cF1 : wF.cell? ⟨b0, 1, none⟩ = some (.int .i64 p.index) := by rw [cell_of_row _ _ _ _ _ _ hzF]; rfl
    have cF2 : wF.cell? ⟨b0, 2, none⟩ = some (.slice A5 p.leaf.length d5) := by rw [cell_of_row _ _ _ _ _ _ hzF]; rfl
    have cF3 : wF.cell? ⟨b0, 3, none⟩ = some (.slice A6 p.aunts.length d6) := by rw [cell_of_row _ _ _ _ _ _ hzF]; rfl
    refine bodyPost_ret (v := .tuple #[.agg #[.int .i64 p.total, .int .i64 p.index, .slice A5 p.leaf.length d5, .slice A6 p.aunts.length d6], .bool true]) (by simp [results, Tryd.results20, go_sem, cF0, cF1, cF2, cF3]) rfl ⟨⟨_, p, rfl, ?_, fun _ => rfl⟩, hkF⟩
    have h9 := (HV5.out.other HZ5.out hk5F).read
    exact ⟨_, _, rfl, h9.1, h9.2, b1, b2, b3, b4⟩
end Go.Proofs.YtfodkjpjejoemaaDoor
