
/-
  Chains: the thin package's call that checks a chain.
  Conditions: the operations read as keys and well-formed proofs; the tables hold what they hold.
-/
import Derived.Test.YtfodkjpjejoemaaGreatDoorChain14
namespace Go.Proofs.YtfodkjpjejoemaaGreatDoor
open Go Go.RowKit
attribute [local go_sem ↓] Go.wp_at_zero Go.wp_at_succ

theorem infoPO : (Tryz.prog.info? 55).map (fun i => (i.zero, i.size, i.bytes)) = some (some (.agg #[.string ⟨#[]⟩, .slice none 0 0, .slice none 0 0]), 3, 64) := by kernel_rfl

set_option maxRecDepth 100000 in
set_option maxHeartbeats 4000000 in
theorem chained_any (ov rv vv : Value) (s : ByteArray) (O : List Opn) (root v : List UInt8) (w : World) (ho : OpsAt w ov O) (hr : Byts w rv root) (ha : Byts w vv v) (hok : ∀ o ∈ O, OpnOk o) (hn : O.length ≤ 1000000) (hvl : v.length ≤ 4294960000)
    (hs : s.size ≤ 1099511626776) (hE : Env w) :
    Calls Tryz.prog 14 #[ov, rv, .string s, vv] w fun e w' => e = .returned (.bool (chainB O root s.data.toList v)) ∧ Keep w w' := by
  have HR := Lib.hid hr
  have HA := Lib.hid ha
  have HOK := Lib.hid hok
  have HE := Lib.hid hE
  obtain ⟨i0, ii, hz0, hz1, hz2⟩ := info_parts infoPO
  obtain ⟨n, hnn⟩ : ∃ n, n = O.length := ⟨_, rfl⟩
  have HN := Lib.hid hnn
  obtain ⟨A, c, rfl, h1, h2, h4⟩ := ho
  rw [← hnn] at h1 hn ⊢
  have H4 := Lib.hid h4
  unfold maxLen at h2
  obtain ⟨Ar, cr, rfl, -, -, -, -⟩ := hr
  obtain ⟨Av, cv, rfl, -, -, -, -⟩ := ha
  obtain ⟨Bc, hBc⟩ : ∃ B, B = chainB O root s.data.toList v := ⟨_, rfl⟩
  have HBC := Lib.hid hBc
  rw [← hBc]
  clear hok hE hBc hnn h4
  go_enter Tryz.func14, Tryz.ntmps14
  go_wp2_with fail
  go_loopw [9, 14] (fun pv iv wr => ∃ (i : Nat) (L : List (Value × Value)), i ≤ n ∧ iv = .int .i64 i ∧ L.length = i ∧ ORow 55 wr w.heap.size pv L ∧ (∀ j (h : j < L.length) (h2 : j < O.length), Byts w L[j].1 O[j].key ∧ Byts w L[j].2 (opMsg O[j].key O[j].prf)) ∧ Keep w wr) (fun _ iv _ => n - (intOf iv).toNat)
  case atStart => exact ⟨0, [], Nat.zero_le _, rfl, rfl, ORow.nil_ _ _ _, fun j h => absurd h (by simp), Kp.refl _ _⟩
  case round =>
    obtain ⟨i, L, hi, rfl, hll, hrow, hel, hkp⟩ := hrel
    have HLL := Lib.hid hll
    have HRW := Lib.hid hrow
    have HEL := Lib.hid hel
    have HKP := Lib.hid hkp
    have hws := hkp.size
    obtain ⟨A1, c1, rfl, -, -⟩ := hrow.form
    clear hll hrow hel hkp
    by_cases hlt : i < n
    · have hiO : i < O.length := by rw [← HN.out]; exact hlt
      obtain ⟨b, rfl, hcs⟩ := H4.out (by rw [← HN.out]; omega)
      obtain ⟨kv, dv, c0, c1', c2, hbk, hbd⟩ := hcs i hiO
      have HBK := Lib.hid hbk
      have HBD := Lib.hid hbd
      have g0 := HKP.out.cell_of c0 (fun x => x)
      have g1 := HKP.out.cell_of c1' (fun x => x)
      have g2 := HKP.out.cell_of c2 (fun x => x)
      obtain ⟨Ak, ck, rfl, -, -, -, -⟩ := hbk
      obtain ⟨Ad, cd, rfl, -, -, -, -⟩ := hbd
      obtain ⟨n7, hn7⟩ : ∃ n7, n7 = O[i].key.length := ⟨_, rfl⟩
      obtain ⟨n6, hn6⟩ : ∃ n6, n6 = (opMsg O[i].key O[i].prf).length := ⟨_, rfl⟩
      rw [← hn6] at HBD g2
      rw [← hn7] at HBK g1
      have hL5 : L.length ≤ 1000000 := by rw [HLL.out]; omega
      have hb0 : b < wr.heap.size := World.block_lt_of_cell? wr _ g0
      clear hcs c0 c1' c2 hn6 hn7
      go_wp2_with (at_builtin
                   refine wpList_append_own _ rfl (.tmp 18) (.tmp 26) 62 rfl w.heap.size 55 i0 (.agg #[.string ⟨#[]⟩, .slice none 0 0, .slice none 0 0]) 3 64 Tryz.underlying62 ii hz0 hz1 hz2 rfl (by decide) _ L.length _ rfl ((HRW.out.keep ((Kp.refl _ _).alloc _)).alloc _) ⟨wr.heap.size + 1, 0, none⟩ 1 1 [(.string ⟨#[115, 105, 109, 112, 108, 101, 58, 118]⟩), .slice Ak n7 ck, .slice Ad n6 cd] rfl rfl ?c1 ?c2 ?c3 ?c4 ?c5 ?_)
      case c1 =>
        intro j u hj
        match j, hj with
        | 0, hj => simp at hj; subst hj; simp [Addr.add]
        | 1, hj => simp at hj; subst hj; simp [Addr.add]
        | 2, hj => simp at hj; subst hj; simp [Addr.add]
        | j + 3, hj => simp at hj
      case c2 => intro u hu; simp at hu; rcases hu with rfl | rfl | rfl <;> rfl
      case c3 => unfold maxLen; omega
      case c4 => omega
      case c5 => simp; omega
      intro v2 w3 h2 hg2 _
      have HV2 := Lib.hid h2
      have HG2 := Lib.hid (Kp.of_grown hg2)
      clear h2 hg2
      go_wp2_with fail
      go_roundw
      case rel =>
        refine ⟨i + 1, L ++ [(.slice Ak n7 ck, .slice Ad n6 cd)], hlt, by go_num, by rw [List.length_append, HLL.out]; rfl, ?_, ?_, ((HKP.out.alloc _).alloc _).trans' HG2.out fun j hj e => by have := (HRW.out.lt j e.symm).1; omega⟩
        · unfold ORow
          rw [cellsO_snoc, List.length_append]
          exact HV2.out
        · intro j hj hj2
          rcases getElem_snoc L _ j hj with ⟨h', e⟩ | ⟨e', e⟩
          · rw [e]; exact HEL.out j h' hj2
          · have hjv : j = i := by rw [e', HLL.out]
            subst hjv
            rw [e]; exact ⟨HBK.out, HBD.out⟩
      case measure => simp [intOf]; omega
    · have hin : i = n := by omega
      subst hin
      have HAS : Hid (OpsAt wr (.slice A1 L.length c1) O) := Lib.hid (HRW.out.ops (OHas.keep ⟨by rw [HLL.out, HN.out], HEL.out⟩ HKP.out))
      go_wp2_with (go_at_call 27
                   refine (verifyOps_any _ _ _ s O root v _ HAS.out (HR.out.keep HKP.out) (HA.out.keep HKP.out) HOK.out (by rw [← HN.out]; exact hn) hvl hs (HE.out.keep HKP.out)).mono ?_
                   rintro e w3 ⟨rfl, hk3⟩
                   rw [← HBC.out])
      go_ret
      exact ⟨rfl, HKP.out.trans hk3⟩
end Go.Proofs.YtfodkjpjejoemaaGreatDoor
