
/-
  Chains: operations decoded one by one.
  Conditions: the operations read as keys and well-formed proofs.
-/
import Derived.Test.YtfodkjpjejoemaaGreatDoorChain7
import Derived.Deep.RegionLaw
namespace Go.Proofs.YtfodkjpjejoemaaGreatDoor
open Go Go.RowKit
attribute [local go_sem ↓] Go.wp_at_zero Go.wp_at_succ

/-- an operation that is well formed -/
structure OpnOk (o : Opn) : Prop where
  k0 : 0 < o.key.length
  kl : o.key.length ≤ 1000000000
  sm : PrfSm o.prf
  num : PrfNum o.prf
  ok : valid o.prf = true
  up : climbP o.prf = some o.root
  rl : o.root.length ≤ 1000000000
/-- operations in a row, three cells each -/
def OpsAt (w : World) (v : Value) (O : List Opn) : Prop :=
  ∃ A c, v = .slice A O.length c ∧ O.length ≤ c ∧ c ≤ maxLen ∧ (0 < O.length → ∃ b, A = some ⟨b, 0, none⟩ ∧ ∀ i (h : i < O.length), ∃ kv dv, w.cell? ⟨b, i * 3, none⟩ = some (.string ⟨#[115, 105, 109, 112, 108, 101, 58, 118]⟩) ∧ w.cell? ⟨b, i * 3 + 1, none⟩ = some kv ∧ w.cell? ⟨b, i * 3 + 2, none⟩ = some dv ∧ Byts w kv O[i].key ∧ Byts w dv (opMsg O[i].key O[i].prf))
theorem OpsAt.keep {w w' : World} {v : Value} {O : List Opn} (h : OpsAt w v O) (k : Keep w w') : OpsAt w' v O := by
  obtain ⟨A, c, h1, h2, h3, h4⟩ := h
  refine ⟨A, c, h1, h2, h3, fun hn => ?_⟩
  obtain ⟨b, h5, h6⟩ := h4 hn
  refine ⟨b, h5, fun i hi => ?_⟩
  obtain ⟨kv, dv, c0, c1, c2, hk, hd⟩ := h6 i hi
  exact ⟨kv, dv, k.cell_of c0 (fun x => x), k.cell_of c1 (fun x => x), k.cell_of c2 (fun x => x), hk.keep k, hd.keep k⟩

theorem fnNotNil (w : World) : (binOp .eql 127 decV .nilFunc).run Tryz.prog w = .ok (.bool false) w := by kernel_rfl

set_option maxRecDepth 100000 in
set_option maxHeartbeats 2000000 in
theorem decode_any (br : Nat) (kv dv : Value) (k : List UInt8) (p : Prf) (w : World) (hr : RtAt w br) (hk : Byts w kv k) (hd : Byts w dv (opMsg k p)) (hkl : k.length ≤ 4294967296) (hs : PrfSm p) (hn : PrfNum p) (hvp : valid p = true)
    (t0 : TypeId) (x0 : Value) (hg : w.cell? ⟨3, 0, none⟩ = some (.iface t0 x0)) :
    Calls Tryz.prog 72 #[.pointer (some ⟨br, 0, none⟩), .agg #[(.string ⟨#[115, 105, 109, 112, 108, 101, 58, 118]⟩), kv, dv]] w fun e w' => (∃ q, e = .returned (.tuple #[.iface 57 (.agg #[kv, .pointer (some ⟨q, 0, none⟩)]), .nilIface]) ∧ PrfN w' w.heap.size q p) ∧ Keep w w' := by
  have HR := Lib.hid hr
  have HK := Lib.hid hk
  have HD := Lib.hid hd
  have HS := Lib.hid hs
  have HN := Lib.hid hn
  have HG := Lib.hid hg
  have HVP := Lib.hid hvp
  obtain ⟨bm, r0, r1⟩ := hr
  obtain ⟨Ak, ck, rfl, -, -, -, -⟩ := hk
  obtain ⟨A, c, rfl, -, -, -, -⟩ := hd
  obtain ⟨n6, hn6⟩ : ∃ n6, n6 = (opMsg k p).length := ⟨_, rfl⟩
  rw [← hn6] at HD ⊢
  obtain ⟨b0, hb0⟩ : ∃ b, b = w.heap.size := ⟨_, rfl⟩
  obtain ⟨w1, hw1⟩ : ∃ w1, w1 = w.alloc (.cells #[(.string ⟨#[115, 105, 109, 112, 108, 101, 58, 118]⟩), .slice Ak k.length ck, .slice A n6 c] 55) := ⟨_, rfl⟩
  have hk1 : Keep w w1 := by rw [hw1]; exact (Kp.refl _ _).alloc _
  have hlm : bm < w.heap.size := (Array.getElem?_eq_some_iff.1 r1).1
  have q0 := hk1.cell_of r0 (fun x => x)
  have q1 : w1.heap[bm]? = some (.map #[{ key := (.string ⟨#[115, 105, 109, 112, 108, 101, 58, 118]⟩), val := decV, born := 0 }] 1) := (hk1.block bm hlm (fun x => x)).trans r1
  have z0 : w1.cell? ⟨b0, 0, none⟩ = some (.string ⟨#[115, 105, 109, 112, 108, 101, 58, 118]⟩) := by rw [hw1, hb0]; simp
  have z1 : w1.cell? ⟨b0, 1, none⟩ = some (.slice Ak k.length ck) := by rw [hw1, hb0]; simp
  have z2 : w1.cell? ⟨b0, 2, none⟩ = some (.slice A n6 c) := by rw [hw1, hb0]; simp
  have e1 := look_one (P := Tryz.prog) (w := w1) ⟨#[115, 105, 109, 112, 108, 101, 58, 118]⟩ decV 0 Tryz.underlying124 Tryz.underlying9 q1
  have e2 := look_one (P := Tryz.prog) (w := w1.drew) ⟨#[115, 105, 109, 112, 108, 101, 58, 118]⟩ decV 0 Tryz.underlying124 Tryz.underlying9 q1
  have e3 := fnNotNil
  have HW1 := Lib.hid hw1
  have HB0 := Lib.hid hb0
  have HK1 := Lib.hid hk1
  clear hs hn hg hvp hn6 r0 r1 hw1 hk1 hb0 q1 hlm
  go_enter Tryz.func72, Tryz.ntmps72
  go_wp2_with fail
  rw [← HB0.out, ← HW1.out]
  go_region_law (fail)
  all_goals
    go_wp2_with (go_at_call 48
                 refine (decoder_any _ _ k p _ ((HK.out.keep HK1.out).keep (Kp.refl _ _).drew) (HD.out.keep (HK1.out.trans (Kp.refl _ _).drew)) hkl HS.out HN.out HVP.out t0 x0 ((HK1.out.trans (Kp.refl _ _).drew).cell_of HG.out (fun x => x))).mono ?_
                 rintro e w5 ⟨⟨q, rfl, hq⟩, hk5⟩
                 have HQ := Lib.hid hq
                 have HK5 := Lib.hid hk5
                 clear hq hk5)
    go_ret2
    exact ⟨⟨q, rfl, fun wx kx => HQ.out wx (kx.mono fun i _ e => Nat.lt_of_lt_of_le e (HK1.out.drew).size)⟩, (HK1.out.trans (Kp.refl _ _).drew).trans HK5.out⟩
end Go.Proofs.YtfodkjpjejoemaaGreatDoor
