
/-
  The specification's sum: spec.Sum is SHA-256.
  Conditions: the argument reads as bytes, at most 2^32 of them.
-/
import Derived.Test.YtfodkjpjejoemaaGreatDoorSha2y
import Derived.Deep.WholeRow
import Derived.StillTailTactics
import Derived.Deep.RegionHeld3
import Derived.Deep.DrawnRows
namespace Go.Proofs.YtfodkjpjejoemaaGreatDoor
open Go Go.RowKit
attribute [local go_sem ↓] Go.wp_at_zero Go.wp_at_succ

set_option maxRecDepth 100000 in
set_option maxHeartbeats 40000000 in
theorem sSum_any (v : Value) (bs : List UInt8) (w : World) (h : Byts w v bs) (hb : bs.length ≤ 4294967296) :
    Calls Tryz.prog 17 #[v] w fun e w' => ∃ v', e = .returned v' ∧ Byts w' v' (sha bs) ∧ Keep w w' := by
  have HB := Lib.hid h
  obtain ⟨A, c, rfl, h1, h2, h3, h4⟩ := h
  clear h4
  unfold maxLen at h2
  go_enter Tryz.func17, Tryz.ntmps17
  go_wp2_with (first
    | (go_at_call 29; refine (begin_any w).mono ?_; rintro e w1 ⟨rfl, hk1⟩; have HK1 := Lib.hid hk1; clear hk1)
    | (go_at_call 30; refine (rounds_any _).mono ?_; rintro e w2 ⟨rfl, hk2⟩; have HK2 := Lib.hid hk2; clear hk2)
    | (refine wpList_store_row rfl 66 _ _ rfl w1.heap.size (shaIV.list.map u32v).toArray rfl rfl 66 _ (heap_alloc_new _ _) (by kernel_rfl) (by kernel_rfl) (by kernel_rfl) ?_; rw [World.setRow_alloc_new])
    | (refine wpList_store_row rfl 68 _ _ rfl w2.heap.size (shaK.map u32v).toArray rfl rfl 68 _ (heap_alloc_new _ _) (by kernel_rfl) (by kernel_rfl) (by kernel_rfl) ?_; rw [World.setRow_alloc_new]
       have hq1 : Arr w2 w1.heap.size 66 shaIV.list := Arr.kp (show Arr (w1.alloc (Obj.cells (shaIV.list.map u32v).toArray 66)) w1.heap.size 66 shaIV.list from heap_alloc_new _ _) HK2.out (fun x => x)
       have HR1 : Hid (Arr (w2.alloc (Obj.cells (shaK.map u32v).toArray 68)) w1.heap.size 66 shaIV.list) := Lib.hid (hq1.kp ((Kp.refl (fun _ => False) _).alloc _) (fun x => x))
       have HR2 : Hid (Arr (w2.alloc (Obj.cells (shaK.map u32v).toArray 68)) w2.heap.size 68 shaK) := Lib.hid (heap_alloc_new _ _)
       have HKW : Hid (Keep w (w2.alloc (Obj.cells (shaK.map u32v).toArray 68))) := Lib.hid (((HK1.out.alloc _).trans HK2.out).alloc _)
       have HNE : Hid (w1.heap.size ≠ w2.heap.size) := Lib.hid (by have := HK2.out.size; simp at this; omega)
       have HLO : Hid (w.heap.size ≤ w1.heap.size) := Lib.hid HK1.out.size
       clear HK1 HK2 hq1
       generalize w2.alloc (Obj.cells (shaK.map u32v).toArray 68) = W at HR1 HR2 HKW ⊢
       generalize w1.heap.size = b1 at HR1 HNE HLO ⊢
       generalize w2.heap.size = b2 at HR2 HNE ⊢
       have HBW := Lib.hid (Byts.keep HB.out HKW.out))
    | (at_builtin; refine wpList_app rfl (.const (.slice none 0 0)) (.tmp 31) 24 rfl appByte rfl (Own.nil_ _ W.heap.size _) rfl (byts_src HBW.out) (u8v_one bs) (by intro hn; have := h3 hn; omega) (by simp; omega) (Nat.le_refl _) ?_
       intro va wa hoa hka hat
       have HOA := Lib.hid hoa
       have HKA := Lib.hid (hka.mono (T := fun _ => False) (fun _ _ hh => by cases hh))
       clear hoa hka hat)
    | (at_builtin; go_loud (
       refine wpList_app rfl (.tmp 32) (.tmp 33) 24 rfl appByte rfl (HOA.out.alloc _) rfl (news := [.int .u8 128]) (Src.one (by simp)) (by intro u hu; simp at hu; subst hu; rfl) (fun x => by cases x) (by simp; omega) (by have := HKA.out.size; simp; omega) ?_
       intro vb wb hob hkb hat
       have HOB : Hid (Own wb W.heap.size 5 vb ((shaPre bs 0).map u8v)) := Lib.hid (by rw [shaPre_zero]; simpa using hob)
       have HKB := Lib.hid ((HKA.out.alloc _).trans' hkb fun i hi he => by have := HOA.out.lt i he.symm; omega)
       clear hob hkb hat HOA HKA)))
  have hz := shaZeros_le bs.length
  have hzm := shaZeros_mod bs.length
  obtain ⟨z, hz0⟩ : ∃ z, z = shaZeros bs.length := ⟨_, rfl⟩
  rw [← hz0] at hz hzm
  have HZ := Lib.hid hz0
  have HZM := Lib.hid hzm
  clear hz0 hzm
  go_loopw [6] (fun v wr => ∃ k : Nat, k ≤ z ∧ Own wr W.heap.size 5 v ((shaPre bs k).map u8v) ∧ Keep W wr) (fun v _ => bs.length + 65 - (lenV v))
  case atStart => exact ⟨0, Nat.zero_le _, HOB.out, HKB.out⟩
  case round =>
    obtain ⟨k, hk, hown, hkp⟩ := hrel
    have HO := Lib.hid hown
    have HK := Lib.hid hkp
    obtain ⟨A1, c1, rfl, f1, f2, f3, f4⟩ := hown.form
    simp only [List.length_map, shaPre_length] at HO f1 f2 ⊢
    clear hown hkp f3 f4
    unfold maxLen at f2
    have hlen : (shaPre bs k).length = bs.length + 1 + k := shaPre_length _ _
    by_cases hlt : k < z
    · have ht : (((bs.length : Int) + 1 + (k : Int)) % 64 != 56) = true := by
        have := HZM.out k hk
        simp; omega
      go_wp2_with (first
        | (at_builtin; go_loud (
           refine wpList_app rfl (.tmp 39) (.tmp 40) 24 rfl appByte rfl (HO.out.alloc _) rfl (news := [.int .u8 0]) (Src.one (by simp)) (by intro u hu; simp at hu; subst hu; rfl) (fun x => by cases x) (by simp; omega) (by have := HK.out.size; simp; omega) ?_
           intro vb wb hob hkb hat
           have HOC : Hid (Own wb W.heap.size 5 vb ((shaPre bs (k + 1)).map u8v)) := Lib.hid (by rw [shaPre_succ]; simpa using hob)
           have HKC := Lib.hid ((HK.out.alloc _).trans' hkb fun i hi he => by have := HO.out.lt i he.symm; omega)
           clear hob hkb hat)))
      go_roundw
      case rel => exact ⟨k + 1, hlt, HOC.out, HKC.out⟩
      case measure =>
        obtain ⟨A2, c2, e, _⟩ := HOC.out.form
        rw [e]
        simp only [lenV, List.length_map, shaPre_length]; omega
    · obtain rfl : k = z := by omega
      have ht : (((bs.length : Int) + 1 + (k : Int)) % 64 != 56) = false := by
        have := HZM.out k hk
        simp; omega
      have HPL := Lib.hid hlen
      clear hlen
      go_wp2
      clear ht
      go_loopw [6, 42] (fun v i wr => ∃ j : Nat, j ≤ 8 ∧ i = .int .i64 j ∧ Own wr W.heap.size 5 v ((shaPre bs k ++ (be64 (8 * bs.length)).take j).map u8v) ∧ Keep W wr) (fun _ i _ => 8 - (intOf i).toNat)
      case atStart => exact ⟨0, by omega, rfl, by simpa using HO.out, HK.out⟩
      case round =>
        obtain ⟨j, hj, rfl, hown, hkp⟩ := hrel
        have HO2 := Lib.hid hown
        have HK2 := Lib.hid hkp
        clear hown hkp HO HK HOB HKB
        by_cases hlt8 : j < 8
        · refine lenRound _ _ _ _ _ _ _ _ _ _ _ _ _ _ _ _ _ _ _ _ _ _ _ _ _ _ _ _ _ _ _ _ _ _ _ _ _ _ _ _ _ _ _ _ _ _ _ _ _ _ _ _ _ _ _ _ _ _ _ _ _ _ _ _ _ _ _ _ _ _ _ _ _ _ _ _ _ _ _ _ _ _ _ _ _ _ _ _ _ _ _ _ _ _ _ _ _ _ _ _ _ _ _ _ _ _ _ _ _ _ _ _ _ _ _ _ _ _ _ _ _ _ _ _ _ _ _ _ _ _ _ _ _ _ _ _ _ _ _ _ _ _ _ _ _ _ _ _ _ _ _ _ _ _ _ _ _ _ _ _ _ _ _ _ _ _ _ _ _ _ _ _ _ _ _ _ _ _ _ _ _ _ _ _ _ _ _ _ _ _ _ _ _ _ _ _ _ _ _ _ _ _ _ _ _ _ _ _ _ _ _ _ _ _ _ _ _ _ _ _ _ _ _ _ _ _ _ _ _ _ _ _ _ _ _ _ _ _ _ _ _ _ _ _ _ _ _ _ _ _ _ _ _ _ _ _ _ _ _ _ _ _ _ _ _ _ _ _ _ _ _ _ _ _ _ _ _ _ _ _ _ _ _ _ _ _ _ _ _ _ _ _ _ _ _ _ _ _ j k W.heap.size bs wr _ _ hlt8 hb (by omega) HO2.out HK2.out.size (fun u6 u7 u43 u44 u45 u46 u47 u48 u49 u50 u51 u52 u53 u54 u55 wd h1 h2 => ?_)
          exact ⟨⟨u6, u7, _, u43, u44, u45, u46, u47, u48, u49, u50, u51, u52, u53, u54, u55, ⟨j + 1, by omega, by go_num, h1, HK2.out.trans' h2 (fun i hi e => by omega)⟩, rfl⟩, by simp [intOf]; omega⟩
        · obtain rfl : j = 8 := by omega
          have h2 := HO2.out
          rw [be64_all, HZ.out, shaPad_eq] at h2
          have HPM := Lib.hid h2
          clear h2
          obtain ⟨pm, hpm⟩ : ∃ pm, pm = shaPad bs := ⟨_, rfl⟩
          rw [← hpm] at HPM
          have hp64 : (shaPad bs).length % 64 = 0 := by unfold shaPad; rw [List.length_append]; exact shaPadding_length _
          rw [← hpm] at hp64
          have hple : pm.length = bs.length + 1 + k + 8 := by
            rw [hpm, ← shaPad_eq, List.length_append, HZ.out, shaPre_length]; simp [be64]
          obtain ⟨m, hm⟩ : ∃ m, pm.length = 64 * m := ⟨pm.length / 64, by omega⟩
          have HSH : Hid (sha bs = (shaRun shaIV pm m).bytes) := Lib.hid (by unfold sha; rw [← hpm, hm]; congr 2; omega)
          have hm1 : 1 ≤ m := by omega
          have hm2 : m ≤ 67108866 := by omega
          obtain ⟨X, hX⟩ : ∃ X, X = wr := ⟨_, rfl⟩
          have HKX : Hid (Keep W X) := Lib.hid (by rw [hX]; exact HK2.out)
          have HRX1 := Lib.hid (HR1.out.kp HKX.out (fun x => x))
          have HRX2 := Lib.hid (HR2.out.kp HKX.out (fun x => x))
          have HBL : Hid (b1 < W.heap.size ∧ b2 < W.heap.size ∧ W.heap.size ≤ X.heap.size) := Lib.hid ⟨HR1.out.lt, HR2.out.lt, HKX.out.size⟩
          obtain ⟨A2, c2, rfl, d1, d2, d3, d4⟩ := HPM.out.form
          have hlm : (pm.map u8v).length = 64 * m := by rw [List.length_map, hm]
          rw [hlm] at HPM d1 ⊢
          clear hlm
          obtain ⟨gm, rfl, hgm, hcm⟩ := d4 (by rw [List.length_map]; omega)
          have HMC : Hid (∀ i, i < 64 * m → X.cell? ⟨gm, i, none⟩ = some (u8v (pm.getD i 0))) := Lib.hid (fun i hi => by
            have := hcm i (by rw [List.length_map]; omega)
            rw [Nat.zero_add] at this
            rw [hX, this]; simp [List.getD, show i < pm.length by omega])
          have HGM : Hid (W.heap.size ≤ gm ∧ gm < X.heap.size) := Lib.hid ⟨hgm, by rw [hX]; exact (HPM.out.lt gm rfl).2⟩
          have HLM := Lib.hid hm
          have HPD := Lib.hid hpm
          rw [← hX]
          obtain ⟨ml, hml⟩ : ∃ ml, ml = 64 * m := ⟨_, rfl⟩
          have hml2 : ml ≤ 4294967424 := by omega
          rw [← hml] at d1 ⊢
          have HML := Lib.hid hml
          clear hml
          clear hcm d3 d4 HK2 HO2 HPM hgm hp64 hple hm hpm hX HZ HZM HPL hz hk hlt f1 f2
          unfold maxLen at d2
          try rw [show ((8 : Nat) : Int) = (8 : Int) from rfl]
          go_wp2
          go_loopw [9] (fun a wr => ∃ n na : Nat, n ≤ m ∧ na = 64 * n ∧ a = .int .i64 na ∧ Arr wr b1 66 (shaRun shaIV pm n).list ∧ Kp (fun i => i = b1) X wr) (fun a _ => 64 * m - (intOf a).toNat)
          case atStart => exact ⟨0, 0, Nat.zero_le _, rfl, rfl, HRX1.out, Kp.refl _ _⟩
          case round =>
            obtain ⟨n, na, hn, hna, rfl, hh, hkp⟩ := hrel
            have HNA := Lib.hid hna
            have HH := Lib.hid hh
            have HKP := Lib.hid hkp
            clear hh hkp HRX1
            by_cases hlt : n < m
            · have hb64 : (na : Int) < (ml : Int) := by have := HML.out; omega
              have hna2 : na ≤ 4294967424 := by have := HML.out; omega
              have HN := Lib.hid hlt
              clear hna hlt
              go_wp2
              have hAz : Arr (wr.alloc (Obj.cells #[Value.int .u32 0, Value.int .u32 0, Value.int .u32 0, Value.int .u32 0, Value.int .u32 0, Value.int .u32 0, Value.int .u32 0, Value.int .u32 0, Value.int .u32 0, Value.int .u32 0, Value.int .u32 0, Value.int .u32 0, Value.int .u32 0, Value.int .u32 0, Value.int .u32 0, Value.int .u32 0, Value.int .u32 0, Value.int .u32 0, Value.int .u32 0, Value.int .u32 0, Value.int .u32 0, Value.int .u32 0, Value.int .u32 0, Value.int .u32 0, Value.int .u32 0, Value.int .u32 0, Value.int .u32 0, Value.int .u32 0, Value.int .u32 0, Value.int .u32 0, Value.int .u32 0, Value.int .u32 0, Value.int .u32 0, Value.int .u32 0, Value.int .u32 0, Value.int .u32 0, Value.int .u32 0, Value.int .u32 0, Value.int .u32 0, Value.int .u32 0, Value.int .u32 0, Value.int .u32 0, Value.int .u32 0, Value.int .u32 0, Value.int .u32 0, Value.int .u32 0, Value.int .u32 0, Value.int .u32 0, Value.int .u32 0, Value.int .u32 0, Value.int .u32 0, Value.int .u32 0, Value.int .u32 0, Value.int .u32 0, Value.int .u32 0, Value.int .u32 0, Value.int .u32 0, Value.int .u32 0, Value.int .u32 0, Value.int .u32 0, Value.int .u32 0, Value.int .u32 0, Value.int .u32 0, Value.int .u32 0] 68)) wr.heap.size 68 (List.replicate 64 0) := heap_alloc_new _ _
              have hKz : Kp (fun i => i = b1) X (wr.alloc (Obj.cells #[Value.int .u32 0, Value.int .u32 0, Value.int .u32 0, Value.int .u32 0, Value.int .u32 0, Value.int .u32 0, Value.int .u32 0, Value.int .u32 0, Value.int .u32 0, Value.int .u32 0, Value.int .u32 0, Value.int .u32 0, Value.int .u32 0, Value.int .u32 0, Value.int .u32 0, Value.int .u32 0, Value.int .u32 0, Value.int .u32 0, Value.int .u32 0, Value.int .u32 0, Value.int .u32 0, Value.int .u32 0, Value.int .u32 0, Value.int .u32 0, Value.int .u32 0, Value.int .u32 0, Value.int .u32 0, Value.int .u32 0, Value.int .u32 0, Value.int .u32 0, Value.int .u32 0, Value.int .u32 0, Value.int .u32 0, Value.int .u32 0, Value.int .u32 0, Value.int .u32 0, Value.int .u32 0, Value.int .u32 0, Value.int .u32 0, Value.int .u32 0, Value.int .u32 0, Value.int .u32 0, Value.int .u32 0, Value.int .u32 0, Value.int .u32 0, Value.int .u32 0, Value.int .u32 0, Value.int .u32 0, Value.int .u32 0, Value.int .u32 0, Value.int .u32 0, Value.int .u32 0, Value.int .u32 0, Value.int .u32 0, Value.int .u32 0, Value.int .u32 0, Value.int .u32 0, Value.int .u32 0, Value.int .u32 0, Value.int .u32 0, Value.int .u32 0, Value.int .u32 0, Value.int .u32 0, Value.int .u32 0] 68)) := HKP.out.alloc _
              have hHz : Arr (wr.alloc (Obj.cells #[Value.int .u32 0, Value.int .u32 0, Value.int .u32 0, Value.int .u32 0, Value.int .u32 0, Value.int .u32 0, Value.int .u32 0, Value.int .u32 0, Value.int .u32 0, Value.int .u32 0, Value.int .u32 0, Value.int .u32 0, Value.int .u32 0, Value.int .u32 0, Value.int .u32 0, Value.int .u32 0, Value.int .u32 0, Value.int .u32 0, Value.int .u32 0, Value.int .u32 0, Value.int .u32 0, Value.int .u32 0, Value.int .u32 0, Value.int .u32 0, Value.int .u32 0, Value.int .u32 0, Value.int .u32 0, Value.int .u32 0, Value.int .u32 0, Value.int .u32 0, Value.int .u32 0, Value.int .u32 0, Value.int .u32 0, Value.int .u32 0, Value.int .u32 0, Value.int .u32 0, Value.int .u32 0, Value.int .u32 0, Value.int .u32 0, Value.int .u32 0, Value.int .u32 0, Value.int .u32 0, Value.int .u32 0, Value.int .u32 0, Value.int .u32 0, Value.int .u32 0, Value.int .u32 0, Value.int .u32 0, Value.int .u32 0, Value.int .u32 0, Value.int .u32 0, Value.int .u32 0, Value.int .u32 0, Value.int .u32 0, Value.int .u32 0, Value.int .u32 0, Value.int .u32 0, Value.int .u32 0, Value.int .u32 0, Value.int .u32 0, Value.int .u32 0, Value.int .u32 0, Value.int .u32 0, Value.int .u32 0] 68)) b1 66 (shaRun shaIV pm n).list := HH.out.kp ((Kp.refl (fun _ => False) _).alloc _) (fun x => x)
              generalize wr.alloc (Obj.cells #[Value.int .u32 0, Value.int .u32 0, Value.int .u32 0, Value.int .u32 0, Value.int .u32 0, Value.int .u32 0, Value.int .u32 0, Value.int .u32 0, Value.int .u32 0, Value.int .u32 0, Value.int .u32 0, Value.int .u32 0, Value.int .u32 0, Value.int .u32 0, Value.int .u32 0, Value.int .u32 0, Value.int .u32 0, Value.int .u32 0, Value.int .u32 0, Value.int .u32 0, Value.int .u32 0, Value.int .u32 0, Value.int .u32 0, Value.int .u32 0, Value.int .u32 0, Value.int .u32 0, Value.int .u32 0, Value.int .u32 0, Value.int .u32 0, Value.int .u32 0, Value.int .u32 0, Value.int .u32 0, Value.int .u32 0, Value.int .u32 0, Value.int .u32 0, Value.int .u32 0, Value.int .u32 0, Value.int .u32 0, Value.int .u32 0, Value.int .u32 0, Value.int .u32 0, Value.int .u32 0, Value.int .u32 0, Value.int .u32 0, Value.int .u32 0, Value.int .u32 0, Value.int .u32 0, Value.int .u32 0, Value.int .u32 0, Value.int .u32 0, Value.int .u32 0, Value.int .u32 0, Value.int .u32 0, Value.int .u32 0, Value.int .u32 0, Value.int .u32 0, Value.int .u32 0, Value.int .u32 0, Value.int .u32 0, Value.int .u32 0, Value.int .u32 0, Value.int .u32 0, Value.int .u32 0, Value.int .u32 0] 68) = wz at hAz hKz hHz ⊢
              have HXB : Hid (X.heap.size ≤ wr.heap.size) := Lib.hid HKP.out.size
              generalize wr.heap.size = bz at hAz HXB ⊢
              have HAZ := Lib.hid hAz
              have HKZ := Lib.hid hKz
              have HHZ := Lib.hid hHz
              clear hAz hKz hHz HH HKP
              obtain ⟨p, hp⟩ : ∃ p, p = shaChunk pm n := ⟨_, rfl⟩
              have HPG : Hid (∀ j, j < 64 → wz.cell? ⟨gm, 64 * n + j, none⟩ = some (u8v (p.getD j 0))) := Lib.hid (fun j hj => by
                rw [hp, shaChunk_getD _ _ _ hj]
                exact HKZ.out.cell_of (HMC.out _ (by have := HN.out; omega)) (fun e => by have := HGM.out; have := HBL.out; simp at e; omega))
              have HP := Lib.hid hp
              clear hp
              go_loopw [62] (fun i wx => ∃ q : Nat, q ≤ 16 ∧ i = .int .i64 q ∧ Arr wx bz 68 (shaWz p q) ∧ Kp (fun i => i = bz) wz wx) (fun i _ => 16 - (intOf i).toNat)
              case atStart => exact ⟨0, by omega, rfl, HAZ.out, Kp.refl _ _⟩
              case round =>
                obtain ⟨q, hq, rfl, hw, hkq⟩ := hrel
                have HW := Lib.hid hw
                have HKQ := Lib.hid hkq
                clear hw hkq
                by_cases hq16 : q < 16
                · have hq16' : (q : Int) < 16 := by omega
                  go_wp2
                  go_loopw [65] (fun i wy => ∃ c : Nat, c ≤ 4 ∧ i = .int .i64 c ∧ Arr wy bz 68 ((shaWz p q).set q (shaPart p q c)) ∧ Kp (fun i => i = bz) wz wy) (fun i _ => 4 - (intOf i).toNat)
                  case atStart =>
                    refine ⟨0, by omega, rfl, ?_, HKQ.out⟩
                    have e : (shaWz p q).set q (shaPart p q 0) = shaWz p q := by
                      apply List.ext_getElem (by simp)
                      intro j j1 j2
                      rw [List.getElem_set]
                      split
                      · rename_i hjq; subst hjq; simp [shaPart, shaWz, shaW_length]
                      · rfl
                    rw [e]; exact HW.out
                  case round =>
                    obtain ⟨cc, hcc, rfl, hv, hkv⟩ := hrel
                    have HV := Lib.hid hv
                    have HKV := Lib.hid hkv
                    clear hv hkv
                    by_cases hc4 : cc < 4
                    ·
                        have hlz : ((shaWz p q).set q (shaPart p q cc)).length = 64 := by rw [List.length_set, shaWz_length _ _ (by omega)]
                        have y1 := HV.out.cell q (by omega)
                        rw [getD_set_same _ (by rw [shaWz_length _ _ (by omega)]; omega)] at y1
                        have y2 := HV.out.frozen q
                        have y3 := HKV.out.cell_of (HPG.out (4 * q + cc) (by omega)) (fun e => by have := HGM.out; have := HXB.out; simp at e; omega)
                        rw [← Nat.add_assoc, ← HNA.out] at y3
                        obtain ⟨jj, hjj⟩ : ∃ jj, jj = na + 4 * q + cc := ⟨_, rfl⟩
                        rw [← hjj] at y3
                        have i1 : (0 : Int) ≤ (q : Int) := by omega
                        have i2 : (q : Int) < 64 := by omega
                        have i3 : (0 : Int) ≤ (jj : Int) := by omega
                        have i4 : (jj : Int) < (ml : Int) := by have := HML.out; have := HNA.out; have := HN.out; omega
                        have i5 : IntKind.i64.wrap (4 * (q : Int)) = 4 * (q : Int) := by rw [IntKind.wrap_i64]; omega
                        have i6 : IntKind.i64.wrap ((na : Int) + 4 * (q : Int)) = (na : Int) + 4 * (q : Int) := by rw [IntKind.wrap_i64]; omega
                        have i7 : IntKind.i64.wrap ((na : Int) + 4 * (q : Int) + (cc : Int)) = (jj : Int) := by rw [IntKind.wrap_i64]; omega
                        have HPT := Lib.hid (show shaPart p q (cc + 1) = shaPart p q cc <<< 8 ||| byteW (p.getD (4 * q + cc) 0) from rfl)
                        generalize p.getD (4 * q + cc) 0 = bb at y3 HPT
                        generalize shaPart p q cc = xx at y1 HPT
                        clear hlz hjj
                        go_wp2
                        go_still_tail 17, (by kernel_rfl)
                        change wpList _ _ _ _ _ wr.drew
                        go_wp2
                        rw [w_shl8, byteW_mod, w_or]
                        go_roundw
                        case rel =>
                          refine ⟨cc + 1, by omega, by go_num, ?_, (HKV.out.setCell (p := ⟨bz, q, none⟩) (fun _ => rfl) _).drew⟩
                          have := HV.out.set q (shaPart p q (cc + 1))
                          rw [set_set', HPT.out] at this
                          rw [HPT.out]
                          exact this
                        case measure => simp [intOf]; omega
                    · obtain rfl : cc = 4 := by omega
                      have HV2 : Hid (Arr wr bz 68 (shaWz p (q + 1))) := Lib.hid (by
                        have := HV.out
                        rw [shaWz_set p q (by omega) _ (by rw [shaPart_four]; unfold shaNext; rw [if_pos hq16])] at this
                        exact this)
                      clear HV
                      go_wp2
                      go_roundw
                      case rel => exact ⟨q + 1, by omega, by go_num, HV2.out, HKV.out⟩
                      case measure => simp [intOf]; omega
                · obtain rfl : q = 16 := by omega
                  go_wp2
                  go_loopw [13] (fun i wx => ∃ q : Nat, 16 ≤ q ∧ q ≤ 64 ∧ i = .int .i64 q ∧ Arr wx bz 68 (shaWz p q) ∧ Kp (fun i => i = bz) wz wx) (fun i _ => 64 - (intOf i).toNat)
                  case atStart => exact ⟨16, by omega, by omega, rfl, HW.out, HKQ.out⟩
                  case round =>
                    clear HW HKQ
                    obtain ⟨q, hq1, hq2, rfl, hw, hkq⟩ := hrel
                    have HW := Lib.hid hw
                    have HKQ := Lib.hid hkq
                    clear hw hkq
                    by_cases hq64 : q < 64
                    · refine schedRound _ _ _ _ _ _ _ _ _ _ _ _ _ _ _ _ _ _ _ _ _ _ _ _ _ _ _ _ _ _ _ _ _ _ _ _ _ _ _ _ _ _ _ _ _ _ _ _ _ _ _ _ _ _ _ _ _ _ _ _ _ _ _ _ _ _ _ _ _ _ _ _ _ _ _ _ _ _ _ _ _ _ _ _ _ _ _ _ _ _ _ _ _ _ _ _ _ _ _ _ _ _ _ _ _ _ _ _ _ _ _ _ _ _ _ _ _ _ _ _ _ _ _ _ _ _ _ _ _ _ _ _ _ _ _ _ _ _ _ _ _ _ _ _ _ _ _ _ _ _ _ _ _ _ _ _ _ _ _ _ _ _ _ _ _ _ _ _ _ _ _ _ _ _ _ _ _ _ _ _ _ _ _ _ _ _ _ _ _ _ _ _ _ _ _ _ _ _ _ _ _ _ _ _ _ _ _ _ _ _ _ _ _ _ _ _ _ _ _ _ _ _ _ _ _ _ _ _ _ _ _ _ _ _ _ _ _ _ _ _ _ _ _ _ _ _ _ _ _ _ _ _ _ _ _ _ _ _ _ _ _ _ _ _ _ _ _ _ _ _ _ _ _ _ _ _ _ _ _ _ _ _ _ _ _ _ _ _ _ _ _ _ _ _ _ _ _ q bz p wr _ _ hq1 hq64 HW.out (fun u14 u15 u87 u88 u89 u90 u91 u92 u93 u94 u95 u96 u97 u98 u99 u100 u101 u102 u103 u104 u105 u106 u107 u108 u109 u110 u111 u112 u113 u114 u115 u116 u117 u118 u119 u120 u121 u122 u123 u124 u125 u126 u127 u128 u129 u130 u131 u132 u133 u134 u135 u136 u137 u138 u139 u140 u141 u142 u143 wd h1 h2 => ?_)
                      exact ⟨⟨_, u14, u15, u87, u88, u89, u90, u91, u92, u93, u94, u95, u96, u97, u98, u99, u100, u101, u102, u103, u104, u105, u106, u107, u108, u109, u110, u111, u112, u113, u114, u115, u116, u117, u118, u119, u120, u121, u122, u123, u124, u125, u126, u127, u128, u129, u130, u131, u132, u133, u134, u135, u136, u137, u138, u139, u140, u141, u142, u143, ⟨q + 1, by omega, by omega, by go_num, h1, HKQ.out.trans h2⟩, rfl⟩, by simp [intOf]; omega⟩
                    · obtain rfl : q = 64 := by omega
                      have HHQ := Lib.hid (HHZ.out.kp HKQ.out (fun e => by have := HXB.out; have := HBL.out; omega))
                      have HRQ := Lib.hid ((HRX2.out.kp HKZ.out (fun e => HNE.out e.symm)).kp HKQ.out (fun e => by have := HXB.out; have := HBL.out; omega))
                      have hzq := HKQ.out.size
                      clear HHZ
                      go_wp2_with (at_builtin; go_loud (
                        refine wpList_app rfl (.const (.slice none 0 0)) (.tmp 144) 72 rfl appWord rfl (Own.nil_ _ wr.heap.size 65) rfl (arr_src (n := 8) HHQ.out rfl) (u32v_one _) (fun e => by cases e) (by simp) (Nat.le_refl _) ?_
                        intro vv wv hov hkv hat
                        have HOV := Lib.hid hov
                        have HKV := Lib.hid (hkv.mono (T := fun _ => False) (fun _ _ hh => by cases hh))
                        clear hov hkv hat))
                      have HWV := Lib.hid (HW.out.kp HKV.out (fun x => x))
                      have HHV := Lib.hid (HHQ.out.kp HKV.out (fun x => x))
                      have HRV := Lib.hid (HRQ.out.kp HKV.out (fun x => x))
                      have HKXV : Hid (Kp (fun i => i = b1) X wv) := Lib.hid ((HKZ.out.trans' HKQ.out fun i hi e => by have := HXB.out; omega).trans' HKV.out fun _ _ hh => hh.elim)
                      have HBV : Hid (bz < wr.heap.size ∧ wr.heap.size ≤ wv.heap.size) := Lib.hid ⟨HW.out.lt, HKV.out.size⟩
                      clear HW HHQ HRQ HKQ HKV hzq
                      generalize wr.heap.size = bv at HOV HBV
                      obtain ⟨S, hS⟩ : ∃ S, S = shaRun shaIV pm n := ⟨_, rfl⟩
                      rw [← hS] at HOV HHV
                      have HS := Lib.hid hS
                      clear hS
                      go_loopw [16, 146] (fun v i wr => ∃ t : Nat, t ≤ 64 ∧ i = .int .i64 t ∧ Own wr bv 65 v ((shaRs p S t).list.map u32v) ∧ Keep wv wr) (fun _ i _ => 64 - (intOf i).toNat)
                      case atStart => exact ⟨0, by omega, rfl, by simpa [shaRs] using HOV.out, Kp.refl _ _⟩
                      case round =>
                        clear HOV
                        obtain ⟨t, ht, rfl, hv, hkv⟩ := hrel
                        by_cases ht64 : t < 64
                        ·
                            have y1 := (HWV.out.kp hkv (fun x => x)).cell t (by rw [shaWz_length _ _ (by omega)]; omega)
                            have y2 := (HRV.out.kp hkv (fun x => x)).cell t (by rw [shaK_length]; omega)
                            rw [shaWz_getD _ _ _ ht64, shaW_getD _ _ _ ht64, ← shaW_getD p t (t + 1) (by omega)] at y1
                            have HRS := Lib.hid (show shaRs p S (t + 1) = shaRnd (shaK.getD t 0) ((shaW p (t + 1)).getD t 0) (shaRs p S t) from rfl)
                            generalize shaK.getD t 0 = kk at y2 HRS
                            generalize (shaW p (t + 1)).getD t 0 = ww at y1 HRS
                            generalize shaRs p S t = s at hv HRS
                            obtain ⟨Av, cv, rfl, f1, f2, f3, f4⟩ := hv.form
                            obtain ⟨gv, rfl, hgv, hcv⟩ := f4 (by simp [St.list])
                            have hl8 : (s.list.map u32v).length = 8 := rfl
                            rw [hl8] at f1 ⊢
                            have z0 : wr.cell? ⟨gv, 0, none⟩ = some (u32v s.a) := hcv 0 (by simp [St.list])
                            have z1 : wr.cell? ⟨gv, 1, none⟩ = some (u32v s.b) := hcv 1 (by simp [St.list])
                            have z2 : wr.cell? ⟨gv, 2, none⟩ = some (u32v s.c) := hcv 2 (by simp [St.list])
                            have z3 : wr.cell? ⟨gv, 3, none⟩ = some (u32v s.d) := hcv 3 (by simp [St.list])
                            have z4 : wr.cell? ⟨gv, 4, none⟩ = some (u32v s.e) := hcv 4 (by simp [St.list])
                            have z5 : wr.cell? ⟨gv, 5, none⟩ = some (u32v s.f) := hcv 5 (by simp [St.list])
                            have z6 : wr.cell? ⟨gv, 6, none⟩ = some (u32v s.g) := hcv 6 (by simp [St.list])
                            have z7 : wr.cell? ⟨gv, 7, none⟩ = some (u32v s.h) := hcv 7 (by simp [St.list])
                            have hbv : bv ≤ wr.heap.size := Nat.le_trans HBV.out.2 hkv.size
                            refine rndRound _ _ _ _ _ _ _ _ _ _ _ _ _ _ _ _ _ _ _ _ _ _ _ _ _ _ _ _ _ _ _ _ _ _ _ _ _ _ _ _ _ _ _ _ _ _ _ _ _ _ _ _ _ _ _ _ _ _ _ _ _ _ _ _ _ _ _ _ _ _ _ _ _ _ _ _ _ _ _ _ _ _ _ _ _ _ _ _ _ _ _ _ _ _ _ _ _ _ _ _ _ _ _ _ _ _ _ _ _ _ _ _ _ _ _ _ _ _ _ _ _ _ _ _ _ _ _ _ _ _ _ _ _ _ _ _ _ _ _ _ _ _ _ _ _ _ _ _ _ _ _ _ _ _ _ _ _ _ _ _ _ _ _ _ _ _ _ _ _ _ _ _ _ _ _ _ _ _ _ _ _ _ _ _ _ _ _ _ _ _ _ _ _ _ _ _ _ _ _ _ _ _ _ _ _ _ _ _ _ _ _ _ _ _ _ _ _ _ _ _ _ _ _ _ _ _ _ _ _ _ _ _ _ _ _ _ _ _ _ _ _ _ _ _ _ _ _ _ _ _ _ _ _ _ _ _ _ _ _ _ _ _ _ _ _ _ _ _ _ _ _ _ _ _ _ _ _ _ _ _ _ _ _ _ _ _ _ _ _ _ _ _ _ _ _ t bz b2 gv cv bv s kk ww wr _ _ ht64 (fun i hi => by
                              rcases (show i = 0 ∨ i = 1 ∨ i = 2 ∨ i = 3 ∨ i = 4 ∨ i = 5 ∨ i = 6 ∨ i = 7 by omega) with rfl | rfl | rfl | rfl | rfl | rfl | rfl | rfl
                              all_goals first | exact z0 | exact z1 | exact z2 | exact z3 | exact z4 | exact z5 | exact z6 | exact z7) y1 y2 f1 f2 hbv (fun u16 u17 u18 u19 u20 u21 u22 u147 u148 u149 u150 u151 u152 u153 u154 u155 u156 u157 u158 u159 u160 u161 u162 u163 u164 u165 u166 u167 u168 u169 u170 u171 u172 u173 u174 u175 u176 u177 u178 u179 u180 u181 u182 u183 u184 u185 u186 u187 u188 u189 u190 u191 u192 u193 u194 u195 u196 u197 u198 u199 u200 u201 u202 u203 u204 u205 u206 u207 u208 u209 u210 u211 u212 u213 u214 u215 u216 u217 u218 u219 u220 u221 u222 u223 u224 u225 u226 u227 u228 u229 u230 u231 u232 u233 u234 u235 u236 u237 u238 u239 u240 u241 u242 u243 u244 u245 u246 u247 u248 u249 u250 u251 u252 u253 u254 u255 u256 u257 u258 u259 u260 u261 u262 u263 u264 u265 u266 wd h1 h2 => ?_)
                            exact ⟨⟨u16, u17, u18, u19, u20, u21, u22, _, u147, u148, u149, u150, u151, u152, u153, u154, u155, u156, u157, u158, u159, u160, u161, u162, u163, u164, u165, u166, u167, u168, u169, u170, u171, u172, u173, u174, u175, u176, u177, u178, u179, u180, u181, u182, u183, u184, u185, u186, u187, u188, u189, u190, u191, u192, u193, u194, u195, u196, u197, u198, u199, u200, u201, u202, u203, u204, u205, u206, u207, u208, u209, u210, u211, u212, u213, u214, u215, u216, u217, u218, u219, u220, u221, u222, u223, u224, u225, u226, u227, u228, u229, u230, u231, u232, u233, u234, u235, u236, u237, u238, u239, u240, u241, u242, u243, u244, u245, u246, u247, u248, u249, u250, u251, u252, u253, u254, u255, u256, u257, u258, u259, u260, u261, u262, u263, u264, u265, u266, ⟨t + 1, by omega, by go_num, by rw [HRS.out]; exact h1, hkv.trans h2⟩, rfl⟩, by simp [intOf]; omega⟩
                        · obtain rfl : t = 64 := by omega
                          obtain ⟨Av, cv, rfl, f1, f2, f3, f4⟩ := hv.form
                          obtain ⟨gv, rfl, hgv, hcv⟩ := f4 (by simp [St.list])
                          have hl8 : ((shaRs p S 64).list.map u32v).length = 8 := rfl
                          rw [hl8] at f1 ⊢
                          have HVC : Hid (∀ i, i < 8 → wr.cell? ⟨gv, i, none⟩ = some (u32v ((shaRs p S 64).list.getD i 0))) := Lib.hid (fun i hi => by
                            have := hcv i (by simpa [St.list] using hi)
                            rw [Nat.zero_add] at this
                            rw [this]; simp [List.getD, show i < (shaRs p S 64).list.length from hi])
                          have HHQ := Lib.hid (HHV.out.kp hkv (fun x => x))
                          have HKX2 := Lib.hid (HKXV.out.trans' hkv fun _ _ hh => hh.elim)
                          have HGV : Hid (b1 < gv) := Lib.hid (by have := HBV.out; have := HXB.out; have := HBL.out; omega)
                          have HSP : Hid (shaRun shaIV pm (n + 1) = S.add (shaRs p S 64)) := Lib.hid (by rw [shaRun, ← HP.out, ← HS.out]; rfl)
                          clear f3 f4 hcv hv hkv hgv hl8 HHV HKXV HWV HRV
                          unfold maxLen at f2
                          generalize shaRs p S 64 = R at HVC HSP
                          obtain ⟨wq, hwq⟩ : ∃ wq, wq = wr := ⟨_, rfl⟩
                          rw [← hwq] at HVC HHQ HKX2 ⊢
                          clear hwq
                          try rw [show ((64 : Nat) : Int) = (64 : Int) from rfl]
                          go_wp2
                          go_loopw [267] (fun i wr => ∃ t : Nat, t ≤ 8 ∧ i = .int .i64 t ∧ Arr wr b1 66 (mixL (S.add R).list S.list t) ∧ Kp (fun i => i = b1) wq wr) (fun i _ => 8 - (intOf i).toNat)
                          case atStart => exact ⟨0, by omega, rfl, HHQ.out, Kp.refl _ _⟩
                          case round =>
                            clear HHQ
                            obtain ⟨t, ht, rfl, hh, hkh⟩ := hrel
                            have HH := Lib.hid hh
                            have HKH := Lib.hid hkh
                            clear hh hkh
                            by_cases ht8 : t < 8
                            ·
                                have y1 := HH.out.cell t (by rw [mixL_length _ _ _ rfl rfl ht]; omega)
                                rw [mixL_getD _ _ _ rfl ht8] at y1
                                have y0 := HH.out.frozen t
                                have y2 := HKH.out.cell_of (HVC.out t ht8) (fun e => by have := HGV.out; simp at e; omega)
                                have HAD := Lib.hid (St.add_getD S R t ht8)
                                generalize S.list.getD t 0 = xa at y1 HAD
                                generalize R.list.getD t 0 = xb at y2 HAD
                                have i1 : (0 : Int) ≤ (t : Int) := by omega
                                have i2 : (t : Int) < 8 := by omega
                                go_wp2
                                go_still_tail 9, (by kernel_rfl)
                                change wpList _ _ _ _ _ wr.drew
                                rw [w_add]
                                go_wp2
                                try rw [w_addF]
                                go_roundw
                                case rel =>
                                  refine ⟨t + 1, by omega, by go_num, ?_, (HKH.out.setCell (p := ⟨b1, t, none⟩) (fun _ => rfl) _).world rfl rfl rfl rfl⟩
                                  have := HH.out.set t ((S.add R).list.getD t 0)
                                  rw [mixL_set _ _ _ rfl rfl ht8, HAD.out] at this
                                  exact this
                                case measure => simp [intOf]; omega
                            · obtain rfl : t = 8 := by omega
                              go_wp2
                              go_roundw
                              case rel =>
                                refine ⟨n + 1, na + 64, by have := HN.out; omega, by have := HNA.out; omega, by go_num, ?_, HKX2.out.trans HKH.out⟩
                                rw [HSP.out]
                                have := HH.out
                                have e : mixL (S.add R).list S.list 8 = (S.add R).list := by
                                  unfold mixL; simp [St.list]
                                rwa [e] at this
                              case measure => have := HML.out; have := HN.out; have := HNA.out; simp [intOf]; omega
            · obtain rfl : n = m := by omega
              have hb64 : ¬ (na : Int) < (ml : Int) := by have := HML.out; omega
              generalize shaRun shaIV pm n = R at HH HSH
              have hR : wr.heap[b1]? = some (.cells #[u32v R.a, u32v R.b, u32v R.c, u32v R.d, u32v R.e, u32v R.f, u32v R.g, u32v R.h] 66 (0, 0)) := HH.out
              have HEND : Hid (Keep w wr) := Lib.hid ((HKW.out.trans HKX.out).trans' HKP.out (by intro i hi e; have := HLO.out; omega))
              clear HH
              go_wp2_with (refine wpList_load_row rfl 66 _ rfl b1 rfl 66 _ (0, 0) _ hR Tryz.underlying66 rfl (by kernel_rfl) ?_)
              obtain ⟨wq, hwq⟩ : ∃ wq, wq = wr := ⟨_, rfl⟩
              rw [← hwq] at HEND ⊢
              clear hwq hR
              go_loopw [24, 281] (fun v i wr => ∃ t : Nat, t ≤ 8 ∧ i = .int .i64 t ∧ Own wr wq.heap.size 5 v (((R.list.take t).flatMap be32).map u8v) ∧ Keep wq wr) (fun _ i _ => 8 - (intOf i).toNat)
              case atStart => exact ⟨0, by omega, rfl, Own.nil_ _ _ _, Kp.refl _ _⟩
              case round =>
                obtain ⟨t, ht, rfl, hv, hkv⟩ := hrel
                have HV := Lib.hid hv
                have HKV := Lib.hid hkv
                clear hv hkv
                by_cases ht8 : t < 8
                · refine outRound _ _ _ _ _ _ _ _ _ _ _ _ _ _ _ _ _ _ _ _ _ _ _ _ _ _ _ _ _ _ _ _ _ _ _ _ _ _ _ _ _ _ _ _ _ _ _ _ _ _ _ _ _ _ _ _ _ _ _ _ _ _ _ _ _ _ _ _ _ _ _ _ _ _ _ _ _ _ _ _ _ _ _ _ _ _ _ _ _ _ _ _ _ _ _ _ _ _ _ _ _ _ _ _ _ _ _ _ _ _ _ _ _ _ _ _ _ _ _ _ _ _ _ _ _ _ _ _ _ _ _ _ _ _ _ _ _ _ _ _ _ _ _ _ _ _ _ _ _ _ _ _ _ _ _ _ _ _ _ _ _ _ _ _ _ _ _ _ _ _ _ _ _ _ _ _ _ _ _ _ _ _ _ _ _ _ _ _ _ _ _ _ _ _ _ _ _ _ _ _ _ _ _ _ _ _ _ _ _ _ _ _ _ _ _ _ _ _ _ _ _ _ _ _ _ _ _ _ _ _ _ _ _ _ _ _ _ _ _ _ _ _ _ _ _ _ _ _ _ _ _ _ _ _ _ _ _ _ _ _ _ _ _ _ _ _ _ _ _ _ _ _ _ _ _ _ _ _ _ _ _ _ _ _ _ _ _ _ _ _ _ _ _ _ _ _ _ _ t wq.heap.size R wr _ _ ht8 HV.out HKV.out.size (fun u24 u26 u282 u283 u284 u285 u286 u287 u288 u289 u290 u291 u292 u293 u294 u295 u296 u297 u298 wd h1 h2 => ?_)
                  exact ⟨⟨u24, u26, _, u282, u283, u284, u285, u286, u287, u288, u289, u290, u291, u292, u293, u294, u295, u296, u297, u298, ⟨t + 1, by omega, by go_num, h1, HKV.out.trans' h2 (fun i hi e => by omega)⟩, rfl⟩, by simp [intOf]; omega⟩
                · obtain rfl : t = 8 := by omega
                  have hfin := HV.out.bytes
                  have HF := Lib.hid hfin
                  obtain ⟨A9, c9, rfl, g1, g2, g3, g4⟩ := hfin
                  clear g3 g4
                  go_wp2
                  go_ret
                  refine ⟨_, rfl, ?_, HEND.out.trans HKV.out⟩
                  rw [HSH.out]
                  exact HF.out
end Go.Proofs.YtfodkjpjejoemaaGreatDoor
