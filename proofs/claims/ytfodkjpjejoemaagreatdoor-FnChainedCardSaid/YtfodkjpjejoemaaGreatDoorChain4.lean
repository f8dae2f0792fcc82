
/-
  Chains: the thin package's operation of a key and a proof.
  Conditions: the key reads as bytes, not none; the proof reads as numbers and lists of bytes.
-/
import Derived.Test.YtfodkjpjejoemaaGreatDoorChain3
import Derived.Test.YtfodkjpjejoemaaGreatDoorZi
namespace Go.Proofs.YtfodkjpjejoemaaGreatDoor
open Go Go.RowKit
attribute [local go_sem ↓] Go.wp_at_zero Go.wp_at_succ

theorem newValueOp_any (kv pv : Value) (k : List UInt8) (b : Nat) (w : World) (hk : Byts w kv k) (hp : pv = .pointer (some ⟨b, 0, none⟩)) :
    Calls Tryz.prog 21 #[kv, pv] w fun e w' => e = .returned (.agg #[kv, pv]) ∧ Keep w w' := by
  subst hp
  obtain ⟨A, c, rfl, -, -, -, -⟩ := hk
  go_enter Tryz.func21, Tryz.ntmps21
  go_wp2
  refine bodyPost_ret (v := .agg #[.slice A k.length c, .pointer (some ⟨b, 0, none⟩)]) (by simp [results, Tryz.results21, go_sem]) rfl ⟨rfl, ?_⟩
  exact (Kp.refl _ _).alloc _

set_option maxRecDepth 100000 in
set_option maxHeartbeats 2000000 in
theorem opOf_any (kv v : Value) (k : List UInt8) (p : Prf) (w : World) (hk : Byts w kv k) (hk0 : 0 < k.length) (hkl : k.length ≤ 4294967296) (hp : PrfV w v p) (hs : PrfSm p) :
    Calls Tryz.prog 8 #[kv, v] w fun e w' => (∃ dv, e = .returned (.agg #[(.string ⟨#[115, 105, 109, 112, 108, 101, 58, 118]⟩), kv, dv]) ∧ Own w' w.heap.size 5 dv ((opMsg k p).map u8v)) ∧ Keep w w' := by
  have HK := Lib.hid hk
  have HS := Lib.hid hs
  have HP := Lib.hid hp
  obtain ⟨A, c, rfl, -, -, -, -⟩ := hk
  obtain ⟨lv, av, rfl, hlv, hav, -⟩ := hp
  obtain ⟨A0, d0, rfl, -, -, -, -⟩ := hlv
  obtain ⟨A1, d1, rfl, -, -, -, -⟩ := hav
  obtain ⟨n, hn⟩ : ∃ n, n = k.length := ⟨_, rfl⟩
  have HN := Lib.hid hn
  rw [← hn] at HK hk0 hkl ⊢
  obtain ⟨b1, hb1⟩ : ∃ b1, b1 = w.heap.size := ⟨_, rfl⟩
  obtain ⟨wb, hwb⟩ : ∃ wb, wb = (w.alloc (.cells #[.int .i64 p.total, .int .i64 p.index, .slice A0 p.leaf.length d0, .slice A1 p.aunts.length d1] 36)).alloc (.cells #[.string ⟨#[]⟩, .slice none 0 0, .slice none 0 0] 33) := ⟨_, rfl⟩
  have hkb : Keep w wb := by rw [hwb]; exact ((Kp.refl _ _).alloc _).alloc _
  have y0 : wb.heap[b1 + 1]? = some (.cells #[.string ⟨#[]⟩, .slice none 0 0, .slice none 0 0] 33 (0, 0)) := by
    have e : b1 + 1 = (w.alloc (.cells #[.int .i64 p.total, .int .i64 p.index, .slice A0 p.leaf.length d0, .slice A1 p.aunts.length d1] 36)).heap.size := by rw [hb1]; simp
    rw [hwb, e]; exact heap_alloc_new _ _
  have HWB := Lib.hid hwb
  have HKB := Lib.hid hkb
  have HY0 := Lib.hid y0
  have HB1 := Lib.hid hb1
  clear hs hn hwb hkb y0 hb1
  go_enter Tryz.func8, Tryz.ntmps8
  go_wp2_with (first
    | (go_at_call 20
       rw [← HWB.out]
       refine (implProof_any _ p _ (HP.out.keep HKB.out)).mono ?_
       rintro e w1 ⟨rfl, hk1⟩
       rw [← HB1.out]
       have HK1 := Lib.hid (HKB.out.trans hk1)
       have HY1 := Lib.hid ((hk1.block _ (lt_of_block HY0.out) (fun x => x)).trans HY0.out)
       clear hk1)
    | (go_at_call 21
       obtain ⟨w2, hw2⟩ : ∃ w2, w2 = w1.alloc (.cells #[.int .i64 p.total, .int .i64 p.index, .slice A0 p.leaf.length d0, .slice A1 p.aunts.length d1] 53) := ⟨_, rfl⟩
       rw [← hw2]
       have hk2 : Keep w1 w2 := by rw [hw2]; exact (Kp.refl _ _).alloc _
       have HP2 : Hid (PrfAt w2 w1.heap.size p) := Lib.hid (by rw [hw2]; exact PrfV.at_new _ (HP.out.keep HK1.out))
       have HK2 := Lib.hid (HK1.out.trans hk2)
       refine (newValueOp_any _ _ k _ _ (by have := HK.out.keep HK2.out; exact (HN.out ▸ this)) rfl).mono ?_
       rintro e w3 ⟨rfl, hk3⟩
       rw [HN.out]
       have HK3 := Lib.hid (HK2.out.trans hk3)
       have HK23 := Lib.hid hk3
       have HY3 := Lib.hid (((hk2.trans hk3).block _ (lt_of_block HY1.out) (fun x => x)).trans HY1.out)
       clear hw2 hk2 hk3)
    | (go_at_call 22
       refine (proofOp_any _ k _ p _ (by have := HK.out.keep HK3.out; exact (HN.out ▸ this)) (by rw [← HN.out]; exact hk0) (by rw [← HN.out]; exact hkl) (HP2.out.keep HK23.out) HS.out).mono ?_
       rintro e w4 ⟨⟨dv, rfl, hdv⟩, hk4⟩
       have HD := Lib.hid (show Byts w4 dv (opMsg k p) from hdv.slc_map u8v (fun _ _ => rfl))
       have HDO := Lib.hid hdv
       have HS3 := Lib.hid (lt_of_block HY3.out)
       have HK4 := Lib.hid (HK3.out.trans hk4)
       have y4 := (hk4.block _ (lt_of_block HY3.out) (fun x => x)).trans HY3.out
       have x0 : w4.cell? ⟨b1 + 1, 0, none⟩ = some (.string ⟨#[]⟩) := by rw [cell_of_row _ _ _ _ _ _ y4]; rfl
       have x1 : w4.cell? ⟨b1 + 1, 1, none⟩ = some (.slice none 0 0) := by rw [cell_of_row _ _ _ _ _ _ y4]; rfl
       have x2 : w4.cell? ⟨b1 + 1, 2, none⟩ = some (.slice none 0 0) := by rw [cell_of_row _ _ _ _ _ _ y4]; rfl
       have x3 : ∀ j, w4.frozen? ⟨b1 + 1, j, none⟩ = false := fun j => frozen_of_row _ _ _ _ _ y4
       have x4 := lt_of_block y4
       have HY4 := Lib.hid y4
       obtain ⟨A6, c6, rfl, -, -, -, -⟩ := hdv.form
       obtain ⟨n6, hn6⟩ : ∃ n6, n6 = ((opMsg k p).map u8v).length := ⟨_, rfl⟩
       have HN6 := Lib.hid hn6
       rw [← hn6] at HD HDO ⊢
       clear hk4 y4 hn6 hdv))
  obtain ⟨wE, hwE⟩ : ∃ wE, wE = ((w4.setCell ⟨b1 + 1, 0, none⟩ (.string ⟨#[115, 105, 109, 112, 108, 101, 58, 118]⟩)).setCell ⟨b1 + 1, 1, none⟩ (.slice A k.length c)).setCell ⟨b1 + 1, 2, none⟩ (.slice A6 n6 c6) := ⟨_, rfl⟩
  rw [← hwE]
  have hzE : wE.heap[b1 + 1]? = some (.cells #[(.string ⟨#[115, 105, 109, 112, 108, 101, 58, 118]⟩), .slice A k.length c, .slice A6 n6 c6] 33 (0, 0)) := by
    rw [hwE, heap_setCell_same _ _ 2 _ _ _ (heap_setCell_same _ _ 1 _ _ _ (heap_setCell_same _ _ 0 _ _ _ HY4.out))]
    simp
  have hkE : Kp (fun i => i = b1 + 1) w4 wE := by
    rw [hwE]
    exact (((Kp.refl (fun i => i = b1 + 1) w4).setCell (p := ⟨b1 + 1, 0, none⟩) (fun _ => rfl) _).setCell (p := ⟨b1 + 1, 1, none⟩) (fun _ => rfl) _).setCell (p := ⟨b1 + 1, 2, none⟩) (fun _ => rfl) _
  have hnE : ∀ o, (wE.alloc o).heap[b1 + 1]? = some (.cells #[(.string ⟨#[115, 105, 109, 112, 108, 101, 58, 118]⟩), .slice A k.length c, .slice A6 n6 c6] 33 (0, 0)) := fun o => (Below.heap_alloc _ _ _ (lt_of_block hzE)).trans hzE
  have cF0 : ∀ o, (wE.alloc o).cell? ⟨b1 + 1, 0, none⟩ = some (.string ⟨#[115, 105, 109, 112, 108, 101, 58, 118]⟩) := fun o => by rw [cell_of_row _ _ _ _ _ _ (hnE o)]; rfl
  have cF1 : ∀ o, (wE.alloc o).cell? ⟨b1 + 1, 1, none⟩ = some (.slice A k.length c) := fun o => by rw [cell_of_row _ _ _ _ _ _ (hnE o)]; rfl
  have cF2 : ∀ o, (wE.alloc o).cell? ⟨b1 + 1, 2, none⟩ = some (.slice A6 n6 c6) := fun o => by rw [cell_of_row _ _ _ _ _ _ (hnE o)]; rfl
  clear hwE hzE hnE x0 x1 x2 x3 x4
  refine bodyPost_ret (v := .agg #[(.string ⟨#[115, 105, 109, 112, 108, 101, 58, 118]⟩), .slice A k.length c, .slice A6 n6 c6]) (by simp only [results, Tryz.results8]; simp [go_sem, cF0, cF1, cF2]) rfl ⟨⟨_, by rw [HN.out], ?_⟩, ?_⟩
  · have h9 := HDO.out.kp hkE fun b hb e => by have h1 := (HDO.out.lt _ hb).1; have h2 := HS3.out; omega
    rw [HN6.out] at h9 ⊢
    exact (Own.lower h9 HK3.out.size).keep ((Kp.refl _ _).alloc _)
  · exact (HK4.out.trans' hkE (fun i hi e => by have := HB1.out; omega)).alloc _
end Go.Proofs.YtfodkjpjejoemaaGreatDoor
