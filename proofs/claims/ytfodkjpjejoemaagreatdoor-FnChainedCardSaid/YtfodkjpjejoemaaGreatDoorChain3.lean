
/-
  Chains: an operation made of a key and a proof.
  Conditions: the key reads as bytes, not none; the proof reads as numbers and lists of bytes.
-/
import Derived.Test.YtfodkjpjejoemaaGreatDoorChain2
import Derived.Test.YtfodkjpjejoemaaGreatDoorZq
import Derived.Deep.RegionLaw
namespace Go.Proofs.YtfodkjpjejoemaaGreatDoor
open Go Go.RowKit
attribute [local go_sem ↓] Go.wp_at_zero Go.wp_at_succ

/-- the proof is small enough for a message -/
structure PrfSm (p : Prf) : Prop where
  leaf : p.leaf.length ≤ 4294967296
  aunts : ∀ a ∈ p.aunts, a.length ≤ 4294967296
  msg : (msgOf p).length ≤ 4294967296

set_option maxHeartbeats 1000000 in
theorem toProto_new (b : Nat) (p : Prf) (lv av : Value) (w : World) (hl : Byts w lv p.leaf) (ha : Mat w av p.aunts) (hc0 : w.cell? ⟨b, 0, none⟩ = some (.int .i64 p.total)) (hc1 : w.cell? ⟨b, 1, none⟩ = some (.int .i64 p.index)) (hc2 : w.cell? ⟨b, 2, none⟩ = some lv) (hc3 : w.cell? ⟨b, 3, none⟩ = some av) :
    Calls Tryz.prog 34 #[.pointer (some ⟨b, 0, none⟩)] w fun e w' => e = .returned (.pointer (some ⟨w.heap.size, 0, none⟩)) ∧ w' = w.alloc (.cells #[.int .i64 p.total, .int .i64 p.index, lv, av] 105) := by
  obtain ⟨A0, d0, rfl, g1, g2, g3, g4⟩ := hl
  obtain ⟨A1, d1, rfl, k1, k2, k3, k4⟩ := ha
  unfold maxLen at g2 k2
  have bw := World.block_lt_of_cell? w _ hc0
  simp only at bw
  clear g3 g4 k3 k4
  go_enter Tryz.func34, Tryz.ntmps34
  go_wp2
  go_ret
  exact ⟨rfl, rfl⟩

set_option maxRecDepth 100000 in
set_option maxHeartbeats 2000000 in
theorem proofOp_any (kv : Value) (k : List UInt8) (bp : Nat) (p : Prf) (w : World) (hk : Byts w kv k) (hk0 : 0 < k.length) (hkl : k.length ≤ 4294967296) (hp : PrfAt w bp p) (hs : PrfSm p) :
    Calls Tryz.prog 22 #[.agg #[kv, .pointer (some ⟨bp, 0, none⟩)]] w fun e w' => (∃ dv, e = .returned (.agg #[(.string ⟨#[115, 105, 109, 112, 108, 101, 58, 118]⟩), kv, dv]) ∧ Own w' w.heap.size 5 dv ((opMsg k p).map u8v)) ∧ Keep w w' := by
  have HK := Lib.hid hk
  obtain ⟨lv, av, hp0, hp1, hp2, hp3, hlv, hav, hpb⟩ := hp
  have HLV := Lib.hid hlv
  have HAV := Lib.hid hav
  have HPB := Lib.hid hpb
  have HS := Lib.hid hs
  obtain ⟨A, c, rfl, -, -, -, -⟩ := hk
  obtain ⟨n, hn⟩ : ∃ n, n = k.length := ⟨_, rfl⟩
  have HN := Lib.hid hn
  rw [← hn] at HK hk0 hkl ⊢
  have hlw := hlv
  have haw := hav
  obtain ⟨A0, d0, rfl, -, -, -, -⟩ := hlv
  obtain ⟨A1, d1, rfl, -, -, -, -⟩ := hav
  clear hs hn hpb
  go_enter Tryz.func22, Tryz.ntmps22
  go_wp2_with fail
  obtain ⟨b1, hb1⟩ : ∃ b1, b1 = w.heap.size := ⟨_, rfl⟩
  obtain ⟨wb, hwb⟩ : ∃ wb, wb = (w.alloc (.cells #[.slice A n c, .pointer (some ⟨bp, 0, none⟩)] 57)).alloc (.cells #[.string ⟨#[]⟩, .slice none 0 0, .slice none 0 0] 55) := ⟨_, rfl⟩
  have hkb : Keep w wb := by rw [hwb]; exact ((Kp.refl _ _).alloc _).alloc _
  have g0 : wb.cell? ⟨b1, 0, none⟩ = some (.slice A n c) := by rw [hwb, hb1]; simp
  have g1 : wb.cell? ⟨b1, 1, none⟩ = some (.pointer (some ⟨bp, 0, none⟩)) := by rw [hwb, hb1]; simp
  have y0 : wb.heap[b1 + 1]? = some (.cells #[.string ⟨#[]⟩, .slice none 0 0, .slice none 0 0] 55 (0, 0)) := by
    have e : b1 + 1 = (w.alloc (.cells #[.slice A n c, .pointer (some ⟨bp, 0, none⟩)] 57)).heap.size := by rw [hb1]; simp
    rw [hwb, e]; exact heap_alloc_new _ _
  have hsb : wb.heap.size = b1 + 2 := by rw [hwb, hb1]; simp
  have HKB := Lib.hid hkb
  have HY0 := Lib.hid y0
  have hb1w : b1 < wb.heap.size := by omega
  have HB1 := Lib.hid (show w.heap.size ≤ b1 by omega)
  have p0 := hkb.cell_of hp0 (fun x => x)
  have p1 := hkb.cell_of hp1 (fun x => x)
  have p2 := hkb.cell_of hp2 (fun x => x)
  have p3 := hkb.cell_of hp3 (fun x => x)
  have hbpw : bp < wb.heap.size := World.block_lt_of_cell? wb _ p0
  have HLW := Lib.hid (hlw.keep hkb)
  have HAW := Lib.hid (haw.keep hkb)
  rw [← hwb, ← hb1]
  clear hwb hb1 hkb y0 hsb hp0 hp1 hp2 hp3 hlw haw
  go_cut [3] (fun v w5 => ∃ b3 b2, v = .pointer (some ⟨b3, 0, none⟩) ∧ MsgAt w5 b3 b2 (.slice A n c) ∧ PrfAt w5 b2 p ∧ Keep wb w5)
  case first =>
    go_region_law (first
      | (go_simp; go_at_call 34
         refine (toProto_new bp p _ _ _ (HLW.out.keep (by repeat (first | exact Kp.refl _ _ | apply Kp.drew | apply Kp.drewN | apply Kp.alloc))) (HAW.out.keep (by repeat (first | exact Kp.refl _ _ | apply Kp.drew | apply Kp.drewN | apply Kp.alloc))) (Kp.cell_of (S := fun _ => False) (by repeat (first | exact Kp.refl _ _ | apply Kp.drew | apply Kp.drewN | apply Kp.alloc)) p0 (fun x => x)) (Kp.cell_of (S := fun _ => False) (by repeat (first | exact Kp.refl _ _ | apply Kp.drew | apply Kp.drewN | apply Kp.alloc)) p1 (fun x => x)) (Kp.cell_of (S := fun _ => False) (by repeat (first | exact Kp.refl _ _ | apply Kp.drew | apply Kp.drewN | apply Kp.alloc)) p2 (fun x => x)) (Kp.cell_of (S := fun _ => False) (by repeat (first | exact Kp.refl _ _ | apply Kp.drew | apply Kp.drewN | apply Kp.alloc)) p3 (fun x => x))).mono ?_
         rintro e w2 ⟨rfl, rfl⟩))
    all_goals
      go_wp2_with fail
      go_meet
      exact ⟨_, _, rfl, ⟨by simp, by simp; rfl⟩, ⟨_, _, by simp, by simp, by simp, by simp, HLW.out.keep (by repeat (first | exact Kp.refl _ _ | apply Kp.drew | apply Kp.drewN | apply Kp.alloc)), HAW.out.keep (by repeat (first | exact Kp.refl _ _ | apply Kp.drew | apply Kp.drewN | apply Kp.alloc)), HPB.out⟩, (by repeat (first | exact Kp.refl _ _ | apply Kp.drew | apply Kp.drewN | apply Kp.alloc))⟩
  case rest =>
    obtain ⟨b3, b2, rfl, hm5, hp5, hk5⟩ := hcut
    have HM5 := Lib.hid hm5
    have HP5 := Lib.hid hp5
    have HK5 := Lib.hid hk5
    have z0 := hk5.cell_of g0 (fun x => x)
    have y5 := (hk5.block _ (lt_of_block HY0.out) (fun x => x)).trans HY0.out
    have HY5 := Lib.hid y5
    clear hm5 hp5 hk5 y5 p0 p1 p2 p3 g0 g1
    go_wp2_with (go_at_call 35
                 refine (marshalOp_any b3 b2 _ k p _ HM5.out (HK.out.keep (HKB.out.trans HK5.out)) (by rw [← HN.out]; exact hk0) (by rw [← HN.out]; exact hkl) HP5.out HS.out.leaf HS.out.aunts HS.out.msg).mono ?_
                 rintro e w6 ⟨v6, rfl, ho6, hk6⟩
                 have HB6 := Lib.hid (show Byts w6 v6 (opMsg k p) from ho6.slc_map u8v (fun _ _ => rfl))
                 have HK6 := Lib.hid hk6
                 obtain ⟨A6, c6, rfl, -, -, -, -⟩ := ho6.form
                 obtain ⟨n6, hn6⟩ : ∃ n6, n6 = ((opMsg k p).map u8v).length := ⟨_, rfl⟩
                 have HO6 := Lib.hid ho6
                 have HN6 := Lib.hid hn6
                 rw [← hn6] at HB6 HO6 ⊢
                 have y6 := (hk6.block _ (lt_of_block HY5.out) (fun x => x)).trans HY5.out
                 have q0 := hk6.cell_of z0 (fun x => x)
                 have x0 : w6.cell? ⟨b1 + 1, 0, none⟩ = some (.string ⟨#[]⟩) := by rw [cell_of_row _ _ _ _ _ _ y6]; rfl
                 have x1 : w6.cell? ⟨b1 + 1, 1, none⟩ = some (.slice none 0 0) := by rw [cell_of_row _ _ _ _ _ _ y6]; rfl
                 have x2 : w6.cell? ⟨b1 + 1, 2, none⟩ = some (.slice none 0 0) := by rw [cell_of_row _ _ _ _ _ _ y6]; rfl
                 have x3 : ∀ j, w6.frozen? ⟨b1 + 1, j, none⟩ = false := fun j => frozen_of_row _ _ _ _ _ y6
                 have HY6 := Lib.hid y6
                 clear ho6 hk6 hn6 y6)
    obtain ⟨wF, hwF⟩ : ∃ wF, wF = ((w6.setCell ⟨b1 + 1, 0, none⟩ (.string ⟨#[115, 105, 109, 112, 108, 101, 58, 118]⟩)).setCell ⟨b1 + 1, 1, none⟩ (.slice A n c)).setCell ⟨b1 + 1, 2, none⟩ (.slice A6 n6 c6) := ⟨_, rfl⟩
    rw [← hwF]
    have hzF : wF.heap[b1 + 1]? = some (.cells #[(.string ⟨#[115, 105, 109, 112, 108, 101, 58, 118]⟩), .slice A n c, .slice A6 n6 c6] 55 (0, 0)) := by
      rw [hwF, heap_setCell_same _ _ 2 _ _ _ (heap_setCell_same _ _ 1 _ _ _ (heap_setCell_same _ _ 0 _ _ _ HY6.out))]
      simp
    have hkF : Kp (fun i => i = b1 + 1) w6 wF := by
      rw [hwF]
      exact (((Kp.refl (fun i => i = b1 + 1) w6).setCell (p := ⟨b1 + 1, 0, none⟩) (fun _ => rfl) _).setCell (p := ⟨b1 + 1, 1, none⟩) (fun _ => rfl) _).setCell (p := ⟨b1 + 1, 2, none⟩) (fun _ => rfl) _
    have cF0 : wF.cell? ⟨b1 + 1, 0, none⟩ = some (.string ⟨#[115, 105, 109, 112, 108, 101, 58, 118]⟩) := by rw [cell_of_row _ _ _ _ _ _ hzF]; rfl
    have cF1 : wF.cell? ⟨b1 + 1, 1, none⟩ = some (.slice A n c) := by rw [cell_of_row _ _ _ _ _ _ hzF]; rfl
    have cF2 : wF.cell? ⟨b1 + 1, 2, none⟩ = some (.slice A6 n6 c6) := by rw [cell_of_row _ _ _ _ _ _ hzF]; rfl
    refine bodyPost_ret (v := .agg #[(.string ⟨#[115, 105, 109, 112, 108, 101, 58, 118]⟩), .slice A n c, .slice A6 n6 c6]) (by simp [results, Tryz.results22, go_sem, cF0, cF1, cF2]) rfl ⟨⟨_, rfl, ?_⟩, ?_⟩
    · have h9 := (HO6.out.kp hkF fun b hb e => by have h1 := (HO6.out.lt _ hb).1; have h2 := lt_of_block HY5.out; omega).lower (HKB.out.trans HK5.out).size
      rw [HN6.out] at h9 ⊢
      exact h9
    · exact ((HKB.out.trans HK5.out).trans HK6.out).trans' hkF (fun i hi e => by have := HB1.out; omega)
end Go.Proofs.YtfodkjpjejoemaaGreatDoor
