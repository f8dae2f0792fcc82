
/-
  Chains: a list of operations decoded.
  Conditions: the operations read as keys and well-formed proofs.
-/
import Derived.Test.YtfodkjpjejoemaaGreatDoorChain8
namespace Go.Proofs.YtfodkjpjejoemaaGreatDoor
open Go Go.RowKit
attribute [local go_sem ↓] Go.wp_at_zero Go.wp_at_succ

theorem appP : AppOk Tryz.prog 138 130 16 := by
  obtain ⟨i0, hi, hz0, hz1, hz2⟩ := info_parts (show (Tryz.prog.info? 130).map (fun i => (i.zero, i.size, i.bytes)) = some (some .nilIface, 1, 16) by kernel_rfl)
  exact ⟨Tryz.underlying138, by omega, i0, _, hi, hz0, hz1, hz2, rfl⟩
/-- a proof that stays whatever is written into a slice's own row -/
def PrfO (w : World) (v : Value) (q : Nat) (p : Prf) : Prop := ∀ wx, Kp (fun i => some i = v.ownBlock) w wx → PrfAt wx q p
theorem PrfO.keep {w w' : World} {v : Value} {q : Nat} {p : Prf} (h : PrfO w v q p) (k : Keep w w') : PrfO w' v q p := fun wx kx => h wx (k.keep.trans kx)
theorem PrfO.step {w w2 : World} {v v2 : Value} {q : Nat} {p : Prf} (h : PrfO w v q p) (k : Kp (fun i => some i = v.ownBlock) w w2) (hl : Near w v v2) : PrfO w2 v2 q p := fun wx kx => h wx (hl.kp k kx)
theorem PrfN.toO {w : World} {B : Nat} {v : Value} {q : Nat} {p : Prf} (h : PrfN w B q p) (hv : ∀ b, v.ownBlock = some b → b < B) : PrfO w v q p := fun wx kx => h wx (kx.mono fun i _ e => hv i e.symm)
/-- operators in a row -/
def OprsAt (w : World) (v : Value) (O : List Opn) : Prop :=
  ∃ A c, v = .slice A O.length c ∧ O.length ≤ c ∧ c ≤ maxLen ∧ (0 < O.length → ∃ b, A = some ⟨b, 0, none⟩ ∧ ∀ i (h : i < O.length), ∃ kv q, w.cell? ⟨b, i, none⟩ = some (.iface 57 (.agg #[kv, .pointer (some ⟨q, 0, none⟩)])) ∧ Byts w kv O[i].key ∧ PrfAt w q O[i].prf)
theorem OprsAt.keep {w w' : World} {v : Value} {O : List Opn} (h : OprsAt w v O) (k : Keep w w') : OprsAt w' v O := by
  obtain ⟨A, c, h1, h2, h3, h4⟩ := h
  refine ⟨A, c, h1, h2, h3, fun hn => ?_⟩
  obtain ⟨b, h5, h6⟩ := h4 hn
  refine ⟨b, h5, fun i hi => ?_⟩
  obtain ⟨kv, q, c0, hk, hd⟩ := h6 i hi
  exact ⟨kv, q, k.cell_of c0 (fun x => x), hk.keep k, hd.keep k⟩

set_option maxRecDepth 100000 in
set_option maxHeartbeats 4000000 in
theorem decodeProof_any (br bo : Nat) (v : Value) (O : List Opn) (w : World) (hr : RtAt w br) (hc : w.cell? ⟨bo, 0, none⟩ = some v) (ho : OpsAt w v O) (hok : ∀ o ∈ O, OpnOk o) (hn : O.length ≤ 1000000)
    (t0 : TypeId) (x0 : Value) (hg : w.cell? ⟨3, 0, none⟩ = some (.iface t0 x0)) :
    Calls Tryz.prog 60 #[.pointer (some ⟨br, 0, none⟩), .pointer (some ⟨bo, 0, none⟩)] w fun e w' => (∃ pv, e = .returned (.tuple #[pv, .nilIface]) ∧ OprsAt w' pv O) ∧ Keep w w' := by
  have HR := Lib.hid hr
  have HOK := Lib.hid hok
  have HG := Lib.hid hg
  obtain ⟨n, hnn⟩ : ∃ n, n = O.length := ⟨_, rfl⟩
  have HN := Lib.hid hnn
  obtain ⟨A, c, rfl, h1, h2, h4⟩ := ho
  rw [← hnn] at h1 hc hn
  unfold maxLen at h2
  have H4 := Lib.hid h4
  obtain ⟨i0, hi0, z0, z1, z2⟩ := info_parts (show (Tryz.prog.info? 130).map (fun i => (i.zero, i.size, i.bytes)) = some (some .nilIface, 1, 16) by kernel_rfl)
  obtain ⟨M, hM⟩ : ∃ M, M = madeCells (Value.nilIface).cells (n * 1) := ⟨_, rfl⟩
  have hMs : M.size = n := by rw [hM]; simp [madeCells]
  have hmk : ∀ w : World, (Instr.makeSlice 138 (.int .i64 0) (.int .i64 (n : Int))).run Tryz.prog w = .ok (.slice (some ⟨w.heap.size, 0, none⟩) 0 n) (w.alloc (.cells M 130)) := fun w => by
    have h9 := run_make (P := Tryz.prog) w 138 130 i0 .nilIface Tryz.underlying138 hi0 z0 .i64 .i64 0 n (by omega) (by omega) (by rw [z2]; omega) (by omega)
    rw [h9, hM, z1]
    simp
  have HMS := Lib.hid hMs
  have lb := World.block_lt_of_cell? w _ hc
  simp only at lb
  clear hr hok hg hnn h4 hM hMs hi0 z0 z1 z2
  go_enter Tryz.func60, Tryz.ntmps60
  go_wp2_with fail
  go_loopw [4, 5, 6, 22] (fun v4 v5 pv iv wr => ∃ (i : Nat) (us : List Value), i ≤ n ∧ v4 = .slice none 0 0 ∧ v5 = .nilIface ∧ iv = .int .i64 i ∧ us.length = i ∧ Own wr w.heap.size 130 pv us ∧ (∀ j (h : j < us.length) (h2 : j < O.length), ∃ kv q, us[j] = .iface 57 (.agg #[kv, .pointer (some ⟨q, 0, none⟩)]) ∧ Byts w kv O[j].key ∧ PrfO wr pv q O[j].prf) ∧ Keep w wr) (fun _ _ _ iv _ => n - (intOf iv).toNat)
  case atStart =>
    refine ⟨0, [], Nat.zero_le _, rfl, rfl, rfl, rfl, ⟨by simp, .inr ⟨w.heap.size, n, M, rfl, Nat.le_refl _, heap_alloc_new _ _, Nat.zero_le _, by unfold maxLen; omega, by rw [HMS.out]; omega, by simp⟩⟩, fun j h => absurd h (by simp), (Kp.refl _ _).alloc _⟩
  case round =>
    obtain ⟨i, us, hi, rfl, rfl, rfl, hul, hown, hel, hkp⟩ := hrel
    have HUL := Lib.hid hul
    have HKP := Lib.hid hkp
    obtain ⟨A1, c1, hpv, f1, f2, f3, f4⟩ := hown.form
    rw [hul] at f1 hpv
    subst hpv
    have HW := Lib.hid hown
    have HEL := Lib.hid hel
    unfold maxLen at f2
    clear hul hown hel hkp f3 f4
    by_cases hlt : i < n
    · have hiO : i < O.length := by rw [← HN.out]; exact hlt
      obtain ⟨b, rfl, hcs⟩ := H4.out (by rw [← HN.out]; omega)
      obtain ⟨kv, dv, c0, c1', c2, hbk, hbd⟩ := hcs i hiO
      have HBK := Lib.hid hbk
      have HBD := Lib.hid hbd
      have g0 := HKP.out.cell_of c0 (fun x => x)
      have g1 := HKP.out.cell_of c1' (fun x => x)
      have g2 := HKP.out.cell_of c2 (fun x => x)
      obtain ⟨o, ho⟩ : ∃ o, o = O[i] := ⟨_, rfl⟩
      have HO := Lib.hid ho
      have HOO := Lib.hid (HOK.out o (by rw [ho]; exact List.getElem_mem hiO))
      rw [← ho] at HBK HBD hbk hbd
      obtain ⟨Ak, ck, rfl, -, -, -, -⟩ := hbk
      obtain ⟨Ad, cd, rfl, -, -, -, -⟩ := hbd
      obtain ⟨n7, hn7⟩ : ∃ n7, n7 = o.key.length := ⟨_, rfl⟩
      obtain ⟨n6, hn6⟩ : ∃ n6, n6 = (opMsg o.key o.prf).length := ⟨_, rfl⟩
      rw [← hn6] at HBD g2
      rw [← hn7] at HBK g1
      clear hcs c0 c1' c2 ho hn6 hn7
      go_wp2_with (first
        | (go_at_call 72
           refine (decode_any br _ _ o.key o.prf _ (HR.out.keep (HKP.out.alloc _)) (HBK.out.keep (HKP.out.alloc _)) (HBD.out.keep (HKP.out.alloc _)) (by have := HOO.out.kl; omega) HOO.out.sm HOO.out.num HOO.out.ok t0 x0 ((HKP.out.alloc _).cell_of HG.out (fun x => x))).mono ?_
           rintro e w5 ⟨⟨q, rfl, hq⟩, hk5⟩
           have HQ := Lib.hid hq
           have HK5 := Lib.hid hk5
           clear hq hk5)
        | (at_builtin
           refine wpList_app rfl (.tmp 37) (.tmp 39) 138 rfl appP rfl (((HW.out.alloc _).keep HK5.out).alloc _) rfl (news := [.iface 57 (.agg #[.slice Ak n7 ck, .pointer (some ⟨q, 0, none⟩)])]) (Src.one (by simp)) (by intro u hu; simp at hu; subst hu; rfl) (fun e => by cases e) (by rw [HUL.out]; omega) (by have := HKP.out.size; have := HK5.out.size; simp at this; simp; omega) ?_
           intro v2 w2 h2 hk2 hn2
           have HO2 := Lib.hid h2
           have HK2 := Lib.hid hk2
           have HN2 := Lib.hid hn2
           clear h2 hk2 hn2))
      go_roundw
      case rel =>
        have hka : Keep wr w5 := ((Kp.refl (fun _ => False) wr).alloc _).trans HK5.out
        have hkb : Keep w5 (w5.alloc (.cells #[.iface 57 (.agg #[.slice Ak n7 ck, .pointer (some ⟨q, 0, none⟩)])] 130)) := (Kp.refl _ _).alloc _
        have hnr : Near (w5.alloc (.cells #[.iface 57 (.agg #[.slice Ak n7 ck, .pointer (some ⟨q, 0, none⟩)])] 130)) (.slice A1 i c1) v2 := (Near.refl _ _).step (Nat.le_refl _) HN2.out
        refine ⟨i + 1, us ++ [.iface 57 (.agg #[.slice Ak n7 ck, .pointer (some ⟨q, 0, none⟩)])], hlt, rfl, rfl, by go_num, by rw [List.length_append, HUL.out]; rfl, HO2.out, ?_, (((HKP.out.trans hka).trans hkb).trans' HK2.out fun j hj e => by have := (HW.out.lt j e.symm).1; omega)⟩
        intro j hj hj2
        rcases getElem_snoc us _ j hj with ⟨h', e⟩ | ⟨e', e⟩
        · obtain ⟨kv', q', e1, e2, e3⟩ := HEL.out j h' hj2
          exact ⟨kv', q', e.trans e1, e2, ((e3.keep hka).keep hkb).step HK2.out hnr⟩
        · have hjv : j = i := by rw [e', HUL.out]
          subst hjv
          refine ⟨_, q, e, by rw [← HO.out]; exact HBK.out, ?_⟩
          rw [← HO.out]
          exact ((HQ.out.toO (fun b hb => by have := (HW.out.lt b hb).2; simp; omega)).keep hkb).step HK2.out hnr
      case measure => simp [intOf]; omega
    · have hin : i = n := by omega
      subst hin
      go_wp2_with fail
      go_ret2
      refine ⟨⟨.slice A1 i c1, rfl, A1, c1, by rw [HN.out], by rw [← HN.out]; exact f1, f2, fun hp => ?_⟩, HKP.out⟩
      obtain ⟨A9, c9, e9, -, -, -, f9⟩ := HW.out.form
      simp only [Value.slice.injEq] at e9
      obtain ⟨rfl, -, rfl⟩ := e9
      obtain ⟨g, rfl, -, hcell⟩ := f9 (by rw [HUL.out, HN.out]; exact hp)
      refine ⟨g, rfl, fun j hj => ?_⟩
      have hj' : j < us.length := by rw [HUL.out, HN.out]; exact hj
      obtain ⟨kv', q', e1, e2, e3⟩ := HEL.out j hj' hj
      have h8 := hcell j hj'
      rw [Nat.zero_add, e1] at h8
      exact ⟨kv', q', h8, e2.keep HKP.out, e3 _ (Kp.refl _ _)⟩
end Go.Proofs.YtfodkjpjejoemaaGreatDoor
