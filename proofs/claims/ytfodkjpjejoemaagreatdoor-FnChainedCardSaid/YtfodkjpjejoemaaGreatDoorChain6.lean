
/-
  Chains: an operation's message decoded into an operator.
  Conditions: the message is an operation's, its proof well formed.
-/
import Derived.Test.YtfodkjpjejoemaaGreatDoorChain5
import Derived.Test.YtfodkjpjejoemaaGreatDoorChain4
namespace Go.Proofs.YtfodkjpjejoemaaGreatDoor
open Go Go.RowKit
attribute [local go_sem ↓] Go.wp_at_zero Go.wp_at_succ

def flds2 (k : List UInt8) (p : Prf) : List Fld := [.byt 1 k, .byt 2 (msgOf p)]
theorem flds2_enc (k : List UInt8) (p : Prf) : (flds2 k p).flatMap Fld.enc = opMsg k p := by simp [flds2, Fld.enc, opMsg]
/-- a proof's numbers fit -/
structure PrfNum (p : Prf) : Prop where
  t1 : -9223372036854775808 ≤ p.total
  t2 : p.total ≤ 9223372036854775807
  i1 : -9223372036854775808 ≤ p.index
  i2 : p.index ≤ 9223372036854775807
  n : p.aunts.length ≤ 1000000000
/-- what is read after so many fields -/
def VSt (B bm bc : Nat) (k : List UInt8) (p : Prf) : Nat → World → Prop
  | 0, w => VRd w B bm bc (.slice none 0 0) (.pointer none)
  | 1, w => ∃ kv, VRd w B bm bc kv (.pointer none) ∧ Own w B 5 kv (k.map u8v)
  | _, w => ∃ kv bp bc', VRd w B bm bc kv (.pointer (some ⟨bp, 0, none⟩)) ∧ Own w B 5 kv (k.map u8v) ∧ RdAt w B bp bc' p

set_option maxHeartbeats 1000000 in
theorem unmarshal2_any (bm B : Nat) (v : Value) (k : List UInt8) (p : Prf) (w : World) (hv : Byp w (fun i => B ≤ i) v (opMsg k p)) (hbm : w.heap[bm]? = some (.cells #[.slice none 0 0, .pointer none] 83 (0, 0))) (hB : B ≤ bm)
    (hkl : k.length ≤ 4294967296) (hs : PrfSm p) (hn : PrfNum p) :
    Calls Tryz.prog 58 #[.pointer (some ⟨bm, 0, none⟩), v] w fun e w' => e = .returned .nilIface ∧ (∃ bc, VSt B bm bc k p 2 w') ∧ Kp (fun i => B ≤ i) w w' := by
  obtain ⟨w1, hw1⟩ : ∃ w1, w1 = w.alloc (.cells #[.pointer (some ⟨bm, 0, none⟩)] 106) := ⟨_, rfl⟩
  obtain ⟨bc, hbc⟩ : ∃ bc, bc = w.heap.size := ⟨_, rfl⟩
  have lb := lt_of_block hbm
  have hk1 : Kp (fun i => B ≤ i) w w1 := by rw [hw1]; exact (Kp.refl _ _).alloc _
  have hv1 := hv.later hk1
  have hr1 : VSt B bm bc k p 0 w1 := by
    refine ⟨by rw [hw1, hbc]; exact heap_alloc_new _ _, ?_, hB, by omega⟩
    rw [hw1, ← hbm]; exact Below.heap_alloc _ _ _ lb
  have hul := uvar_ten k.length (by omega)
  have hum := uvar_ten (msgOf p).length (by have := hs.msg; omega)
  have hsm := hs.msg
  have hok : ∀ f ∈ flds2 k p, f.ok := by
    intro f hf
    simp only [flds2, List.mem_cons, List.not_mem_nil, or_false] at hf
    rcases hf with rfl | rfl
    · exact ⟨by simp [Fld.tag], by simp [Fld.tag], by simp [Fld.val]; omega, by simpa [Fld.load] using hkl⟩
    · exact ⟨by simp [Fld.tag], by simp [Fld.tag], by simp [Fld.val]; omega, by simpa [Fld.load] using hsm⟩
  have key := wireFields2_any (.pointer (some ⟨bc, 0, none⟩)) (flds2 k p) v w1 (fun i => B ≤ i) (VSt B bm bc k p) hok (by rw [flds2_enc]; exact hv1) (by rw [flds2_enc]; simp only [opMsg, fByt, List.length_append, List.length_cons]; omega) hr1 (by
    intro i hi wr x hI hkp hx
    match i, hi with
    | 0, _ => exact clo2_key B bm bc k x wr hI hx hkl
    | 1, _ =>
      obtain ⟨kv, h1, h2⟩ := hI
      refine (clo2_prf B bm bc kv k p x wr h1 h2 hx hs hn.t1 hn.t2 hn.i1 hn.i2 hn.n).mono ?_
      rintro e w' ⟨he, ⟨bp, bc', h3⟩, hk⟩
      exact ⟨he, ⟨kv, bp, bc', h3⟩, hk⟩
    | j + 2, hi => exact absurd hi (by simp [flds2]))
  have KEY := Lib.hid key
  have HK1 := Lib.hid hk1
  obtain ⟨A, c, rfl, -, -, -, -⟩ := hv.at_
  have HW1 := Lib.hid hw1
  have HBC := Lib.hid hbc
  clear key hk1 hv hv1 hr1 hok hw1 hbc hbm hul hum hsm
  go_enter Tryz.func58, Tryz.ntmps58
  go_wp2_with (go_at_call 68
               rw [← HW1.out, ← HBC.out]
               refine KEY.out.mono ?_
               rintro e w2 ⟨rfl, h2, hk2⟩
               have H2 := Lib.hid h2
               have HK2 := Lib.hid hk2
               clear h2 hk2)
  go_ret
  exact ⟨rfl, ⟨bc, H2.out⟩, HK1.out.trans HK2.out⟩

set_option maxHeartbeats 1000000 in
theorem fromProto2_any (bm : Nat) (p : Prf) (w : World) (lv av : Value) (hb : w.heap[bm]? = some (.cells #[.int .i64 p.total, .int .i64 p.index, lv, av] 105 (0, 0))) (hl : Byts w lv p.leaf) (ha : Mat w av p.aunts)
    (b1 : -9223372036854775808 ≤ p.total) (b2 : p.total ≤ 9223372036854775807) (b3 : -9223372036854775808 ≤ p.index) (b4 : p.index ≤ 9223372036854775807)
    (t0 : TypeId) (x0 : Value) (hg : w.cell? ⟨3, 0, none⟩ = some (.iface t0 x0)) :
    Calls Tryz.prog 59 #[.pointer (some ⟨bm, 0, none⟩)] w fun e w' => (∃ v b', e = .returned (.tuple #[.pointer (some ⟨b', 0, none⟩), v]) ∧ b' = w.heap.size ∧ ErrIs (!valid p) v ∧ w'.cell? ⟨b', 0, none⟩ = some (.int .i64 p.total) ∧ w'.cell? ⟨b', 1, none⟩ = some (.int .i64 p.index) ∧ w'.cell? ⟨b', 2, none⟩ = some lv ∧ w'.cell? ⟨b', 3, none⟩ = some av) ∧ Keep w w' := by
  have HV := Lib.hid (show PrfV w (.agg #[.int .i64 p.total, .int .i64 p.index, lv, av]) p from ⟨lv, av, rfl, hl, ha, b1, b2, b3, b4⟩)
  obtain ⟨w5, hw5⟩ : ∃ w5, w5 = w.alloc (.cells #[.int .i64 p.total, .int .i64 p.index, lv, av] 53) := ⟨_, rfl⟩
  have hp5 : PrfAt w5 w.heap.size p := by rw [hw5]; exact PrfV.at_new _ HV.out
  have HC5 := Lib.hid (show w5.cell? ⟨w.heap.size, 0, none⟩ = some (.int .i64 p.total) ∧ w5.cell? ⟨w.heap.size, 1, none⟩ = some (.int .i64 p.index) ∧ w5.cell? ⟨w.heap.size, 2, none⟩ = some lv ∧ w5.cell? ⟨w.heap.size, 3, none⟩ = some av by rw [hw5]; simp)
  have hk5 : Keep w w5 := by rw [hw5]; exact (Kp.refl _ _).alloc _
  have VAL := Lib.hid (validate_any w.heap.size p w5 hp5 t0 x0 (hk5.cell_of hg (fun x => x)))
  have HP5 := Lib.hid hp5
  have HK5 := Lib.hid hk5
  have HW5 := Lib.hid hw5
  have c0 : w.cell? ⟨bm, 0, none⟩ = some (.int .i64 p.total) := by rw [cell_of_row _ _ _ _ _ _ hb]; rfl
  have c1 : w.cell? ⟨bm, 1, none⟩ = some (.int .i64 p.index) := by rw [cell_of_row _ _ _ _ _ _ hb]; rfl
  have c2 : w.cell? ⟨bm, 2, none⟩ = some lv := by rw [cell_of_row _ _ _ _ _ _ hb]; rfl
  have c3 : w.cell? ⟨bm, 3, none⟩ = some av := by rw [cell_of_row _ _ _ _ _ _ hb]; rfl
  have lb := lt_of_block hb
  obtain ⟨A0, d0, rfl, -, -, -, -⟩ := hl
  obtain ⟨A1, d1, rfl, -, -, -, -⟩ := ha
  clear hb hg hp5 hk5 hw5
  go_enter Tryz.func59, Tryz.ntmps59
  go_wp2_with (go_at_call 71
               rw [← HW5.out]
               refine VAL.out.mono ?_
               rintro e w2 ⟨⟨v, rfl, he⟩, hk2⟩
               have HE := Lib.hid he
               have HK2 := Lib.hid hk2
               clear he hk2)
  go_ret2
  exact ⟨⟨v, w.heap.size, rfl, rfl, HE.out, HK2.out.cell_of HC5.out.1 (fun x => x), HK2.out.cell_of HC5.out.2.1 (fun x => x), HK2.out.cell_of HC5.out.2.2.1 (fun x => x), HK2.out.cell_of HC5.out.2.2.2 (fun x => x)⟩, HK5.out.trans HK2.out⟩

/-- a proof in blocks of its own from B on: it stays whatever is written below -/
def PrfN (w : World) (B q : Nat) (p : Prf) : Prop := ∀ wx, Kp (fun i => i < B) w wx → PrfAt wx q p
theorem PrfN.keep {w w' : World} {B q : Nat} {p : Prf} (h : PrfN w B q p) (k : Keep w w') : PrfN w' B q p := fun wx kx => h wx (k.keep.trans kx)
theorem RdV.kp {w w' : World} {B C : Nat} {lv av : Value} {p : Prf} (h : RdV w B lv av p) (k : Kp (fun i => i < C) w w') (hC : C ≤ B) : RdV w' B lv av p := by
  obtain ⟨us, h1, h2, h3, h4⟩ := h
  exact ⟨us, h1.kp k fun b hb e => by have := (h1.lt b hb).1; omega, h2.kp k fun b hb e => by have := (h2.lt b hb).1; omega, h3, fun i hi hi' => (h4 i hi hi').kp k fun b hb e => by have := ((h4 i hi hi').lt b hb).1; omega⟩

set_option maxRecDepth 100000 in
set_option maxHeartbeats 2000000 in
theorem decoder_any (kv dv : Value) (k : List UInt8) (p : Prf) (w : World) (hk : Byts w kv k) (hd : Byts w dv (opMsg k p)) (hkl : k.length ≤ 4294967296) (hs : PrfSm p) (hn : PrfNum p) (hvp : valid p = true)
    (t0 : TypeId) (x0 : Value) (hg : w.cell? ⟨3, 0, none⟩ = some (.iface t0 x0)) :
    Calls Tryz.prog 48 #[.agg #[(.string ⟨#[115, 105, 109, 112, 108, 101, 58, 118]⟩), kv, dv]] w fun e w' => (∃ q, e = .returned (.tuple #[.iface 57 (.agg #[kv, .pointer (some ⟨q, 0, none⟩)]), .nilIface]) ∧ PrfN w' w.heap.size q p) ∧ Keep w w' := by
  obtain ⟨b0, hb0⟩ : ∃ b, b = w.heap.size := ⟨_, rfl⟩
  obtain ⟨w1, hw1⟩ : ∃ w1, w1 = w.alloc (.cells #[(.string ⟨#[115, 105, 109, 112, 108, 101, 58, 118]⟩), kv, dv] 55) := ⟨_, rfl⟩
  obtain ⟨w2, hw2⟩ : ∃ w2, w2 = w1.alloc (.cells #[.slice none 0 0, .pointer none] 83) := ⟨_, rfl⟩
  have hs1 : w1.heap.size = b0 + 1 := by rw [hw1, hb0]; simp
  have hk1 : Keep w w1 := by rw [hw1]; exact (Kp.refl _ _).alloc _
  have hk2 : Keep w w2 := by rw [hw2]; exact hk1.alloc _
  have hz1 : w1.heap[b0]? = some (.cells #[(.string ⟨#[115, 105, 109, 112, 108, 101, 58, 118]⟩), kv, dv] 55 (0, 0)) := by rw [hw1, hb0]; exact heap_alloc_new _ _
  have hz2 : w2.heap[b0]? = some (.cells #[(.string ⟨#[115, 105, 109, 112, 108, 101, 58, 118]⟩), kv, dv] 55 (0, 0)) := by rw [hw2, ← hz1]; exact Below.heap_alloc _ _ _ (by omega)
  have hy2 : w2.heap[b0 + 1]? = some (.cells #[.slice none 0 0, .pointer none] 83 (0, 0)) := by rw [hw2, ← hs1]; exact heap_alloc_new _ _
  have hgl := World.block_lt_of_cell? w _ hg
  simp only at hgl
  have UNM := Lib.hid (unmarshal2_any (b0 + 1) (b0 + 1) dv k p w2 (Byts.byp' (hd.keep hk2) (b0 + 1) (hd.keep hk1) (by rw [hw2]; exact (Kp.refl _ _).alloc _) hs1.symm) hy2 (Nat.le_refl _) hkl hs hn)
  have HG2 := Lib.hid (hk2.cell_of hg (fun x => x))
  have HK2 := Lib.hid hk2
  have HZ2 := Lib.hid hz2
  have HW1 := Lib.hid hw1
  have HW2 := Lib.hid hw2
  have HB0 := Lib.hid hb0
  have HVP := Lib.hid hvp
  have HKV := Lib.hid hk
  have HN := Lib.hid hn
  have hg0 : 3 < b0 := by omega
  obtain ⟨A, c, rfl, -, -, -, -⟩ := hd
  obtain ⟨n6, hn6⟩ : ∃ n6, n6 = (opMsg k p).length := ⟨_, rfl⟩
  obtain ⟨Ak, ck, rfl, -, -, -, -⟩ := hk
  rw [← hn6] at UNM HZ2 HW1 ⊢
  clear hg hk2 hz2 hw1 hw2 hb0 hy2 hz1 hk1 hs1 hgl hvp hn hs hn6
  go_enter Tryz.func48, Tryz.ntmps48
  go_wp2_with (first
    | (go_at_call 58
       rw [← HB0.out, ← HW1.out, ← HW2.out]
       refine UNM.out.mono ?_
       rintro e w3 ⟨rfl, ⟨bc, kv3, bp, bc', ⟨-, hy3, -, -⟩, -, hr3⟩, hk3⟩
       obtain ⟨lv, av, hb3, hv3⟩ := hr3.read
       have HB3 := Lib.hid hb3
       have HV3 := Lib.hid hv3
       have HK3 := Lib.hid (HK2.out.trans' hk3 (fun i hi h => by have := HB0.out; omega))
       have hz3 := (hk3.block _ (lt_of_block HZ2.out) (fun h => by omega)).trans HZ2.out
       have HZ3 := Lib.hid hz3
       have HG3 := Lib.hid (hk3.cell_of HG2.out (fun h => by replace h : b0 + 1 ≤ 3 := h; omega))
       have y1 : w3.cell? ⟨b0 + 1, 1, none⟩ = some (.pointer (some ⟨bp, 0, none⟩)) := by rw [cell_of_row _ _ _ _ _ _ hy3]; rfl
       clear hr3 hb3 hv3 hk3 hz3 hy3)
    | (go_at_call 59
       refine (fromProto2_any _ p _ lv av HB3.out HV3.out.read.1 HV3.out.read.2 HN.out.t1 HN.out.t2 HN.out.i1 HN.out.i2 t0 x0 HG3.out).mono ?_
       rintro e w4 ⟨⟨ev, b', rfl, hb', he, hp4⟩, hk4⟩
       have HBN := Lib.hid (show w.heap.size ≤ b' by have := HK3.out.size; omega)
       clear hb'
       rw [HVP.out] at he
       simp [ErrIs] at he
       subst he
       have HV4 := Lib.hid (HV3.out.keep hk4)
       have HP4 := Lib.hid hp4
       have HK4 := Lib.hid (HK3.out.trans hk4)
       have hz4 := (hk4.block _ (lt_of_block HZ3.out) (fun x => x)).trans HZ3.out
       have z1 : w4.cell? ⟨b0, 1, none⟩ = some (.slice Ak k.length ck) := by rw [cell_of_row _ _ _ _ _ _ hz4]; rfl
       clear hp4 hk4 hz4)
    | (go_at_call 21
       refine (newValueOp_any _ _ k _ _ (HKV.out.keep HK4.out) rfl).mono ?_
       rintro e w5 ⟨rfl, hk5⟩
       have HK5 := Lib.hid hk5
       clear hk5))
  go_ret2
  refine ⟨⟨_, rfl, fun wx kx => ?_⟩, HK4.out.trans HK5.out⟩
  have h9 := ((HV4.out.keep HK5.out).kp kx (by have := HB0.out; omega)).read
  have hn9 : ¬ b' < w.heap.size := by have := HBN.out; omega
  exact ⟨lv, av, kx.cell_of (HK5.out.cell_of HP4.out.1 (fun x => x)) hn9, kx.cell_of (HK5.out.cell_of HP4.out.2.1 (fun x => x)) hn9, kx.cell_of (HK5.out.cell_of HP4.out.2.2.1 (fun x => x)) hn9, kx.cell_of (HK5.out.cell_of HP4.out.2.2.2 (fun x => x)) hn9, h9.1, h9.2, HN.out.t1, HN.out.t2, HN.out.i1, HN.out.i2⟩
end Go.Proofs.YtfodkjpjejoemaaGreatDoor
