/-
  The keys of a path: the split at slashes walked.
  Conditions: the length is bounded.
-/
import Derived.Test.YtfodkjpjejoemaaDoorKey1
import Derived.StillTailTactics
import Derived.Deep.RegionHeld3
import Derived.Deep.DrawnRows
namespace Go.Proofs.YtfodkjpjejoemaaDoor
open Go Go.RowKit
attribute [local go_sem ↓] Go.wp_at_zero Go.wp_at_succ

def strV (l : List UInt8) : Value := .string ⟨l.toArray⟩
theorem appS : AppOk Tryd.prog 133 9 16 := by
  obtain ⟨i0, hi, hz0, hz1, hz2⟩ := info_parts (show (Tryd.prog.info? 9).map (fun i => (i.zero, i.size, i.bytes)) = some (some (.string ⟨#[]⟩), 1, 16) by kernel_rfl)
  exact ⟨Tryd.underlying133, by omega, i0, _, hi, hz0, hz1, hz2, rfl⟩
theorem strV_data (s : ByteArray) : Value.string s = strV s.data.toList := by unfold strV; rw [Lib.mk_data]
theorem oneS (w : World) (s : ByteArray) : Src (w.alloc (.cells #[.string s] 9)) (some ⟨w.heap.size, 0, none⟩) 1 ([s.data.toList].map strV) := Src.one (by rw [World.cell?_alloc_new]; simp [← strV_data])
theorem oneSC (L : List (List UInt8)) : ∀ u ∈ L.map strV, u.oneCell' = true := by
  intro u hu; obtain ⟨x, _, rfl⟩ := List.mem_map.1 hu; rfl
def lenS : Value → Nat | .string s => s.size | _ => 0

theorem segs_slash (L : List UInt8) (k : Nat) (h : k < L.length) (hk : L[k] = 47) (hn : ∀ c ∈ L.take k, c ≠ 47) : segs L = L.take k :: segs (L.drop (k + 1)) := by
  have e : L.take k ++ 47 :: L.drop (k + 1) = L := by rw [← hk, ← drop_at L k h, List.take_append_drop]
  have h2 := segs_more (L.take k) (L.drop (k + 1)) hn
  rw [e] at h2
  exact h2
theorem segs_length (L : List UInt8) : (segs L).length ≤ L.length + 1 := by
  induction L with
  | nil => simp [segs]
  | cons c t ih =>
    rw [segs]
    split
    · simp; omega
    · split
      · simp
      · rename_i h r e
        rw [e] at ih
        simp at ih ⊢; omega

set_option maxHeartbeats 2000000 in
theorem zzSplit_any (s : ByteArray) (w : World) (hs : s.size ≤ 1099511627776) :
    Calls Tryd.prog 89 #[.string s, .string { data := #[47] }] w fun e w' => ∃ v, e = .returned v ∧ Own w' w.heap.size 9 v ((segs s.data.toList).map strV) ∧ Keep w w' := by
  have hsl := segs_length s.data.toList
  rw [← size_data] at hsl
  obtain ⟨N, hN⟩ : ∃ N, N = s.size := ⟨_, rfl⟩
  have HSL : Hid ((segs s.data.toList).length ≤ N + 1) := Lib.hid (by omega)
  rw [← hN] at hs
  have HNN := Lib.hid hN
  clear hsl hN
  go_enter Tryd.func89, Tryd.ntmps89
  go_wp2_with fail
  go_loopw [0, 5] (fun sv v wr => ∃ (s' : ByteArray) (done : List (List UInt8)), sv = .string s' ∧ s'.size ≤ N ∧ Own wr w.heap.size 9 v (done.map strV) ∧ done ++ segs s'.data.toList = segs s.data.toList ∧ Keep w wr) (fun sv _ _ => lenS sv)
  case atStart => exact ⟨s, [], rfl, by rw [HNN.out]; exact Nat.le_refl _, Own.nil_ _ _ _, rfl, Kp.refl _ _⟩
  case round =>
    obtain ⟨s', done, rfl, hn', hown, hd, hkp⟩ := hrel
    have HW := Lib.hid hown
    have HD := Lib.hid hd
    have HK := Lib.hid hkp
    have hdl : done.length ≤ N := by
      have h1 := HSL.out
      rw [← hd, List.length_append] at h1
      have h2 : 0 < (segs s'.data.toList).length := List.length_pos_iff.2 (segs_ne _)
      omega
    obtain ⟨A1, c1, rfl, f1, f2, f3, f4⟩ := hown.form
    have hll : (done.map strV).length = done.length := by simp
    have HLL := Lib.hid hll
    rw [hll] at f1 HW ⊢
    unfold maxLen at f2
    clear hown hd hkp f3 f4 hll
    go_wp2_with fail
    refine (zzIndex_any s' _ (by omega)).mono ?_
    rintro e w1 ⟨⟨r, rfl, hr⟩, rfl⟩
    rcases hr with ⟨rfl, hno⟩ | ⟨k, rfl, hk, h47, hno⟩
    · have HNO := Lib.hid hno
      clear hno
      go_wp2_with (at_builtin
                   refine wpList_app rfl (.tmp 42) (.tmp 44) 133 rfl appS rfl (HW.out.alloc _) rfl (oneS _ _) (oneSC [_]) (fun e => by cases e) (by rw [HLL.out]; omega) (by have := HK.out.size; simp; omega) ?_
                   intro v2 w2 h2 hk2 _
                   have HO2 := Lib.hid h2
                   have HK2 := Lib.hid hk2
                   clear h2 hk2)
      go_ret
      refine ⟨v2, rfl, ?_, (HK.out.alloc _).trans' HK2.out (fun i hi e => by have := (HW.out.lt i e.symm).1; omega)⟩
      have h1 := HO2.out
      rw [← List.map_append, ← segs_one _ HNO.out, HD.out] at h1
      exact h1
    · have hks : k < s'.size := by rw [size_data]; exact hk
      have hseg := segs_slash _ k hk h47 hno
      have HSG := Lib.hid hseg
      obtain ⟨sa, hsa⟩ : ∃ sa, sa = s'.extract 0 k := ⟨_, rfl⟩
      obtain ⟨sb, hsb⟩ : ∃ sb, sb = s'.extract (k + 1) s'.size := ⟨_, rfl⟩
      have hs1 : ∀ w, (Instr.slice 9 (.string s') none (some (.int .i64 (k : Int))) none).run Tryd.prog w = .ok (.string sa) w := fun w => by
        rw [run_slice_string_h w _ s' Tryd.underlying9 .i64 k (by omega) (by omega), hsa]; rfl
      have hs2 : ∀ w, (Instr.slice 9 (.string s') (some (.int .i64 ((k : Int) + 1))) none none).run Tryd.prog w = .ok (.string sb) w := fun w => by
        rw [run_slice_string_l w _ s' Tryd.underlying9 .i64 _ (by omega) (by omega), hsb]; rfl
      have ha : sa.data.toList = s'.data.toList.take k := by rw [hsa, Lib.extract_data]; simp
      have hb : sb.data.toList = s'.data.toList.drop (k + 1) := by
        rw [hsb, Lib.extract_data, List.take_of_length_le (by rw [List.length_drop, ← size_data]; exact Nat.le_refl _)]
      have hbl : sb.size < s'.size := by rw [size_data, hb, List.length_drop, ← size_data]; omega
      have HA := Lib.hid ha
      have HB := Lib.hid hb
      clear ha hb hsa hsb hseg hno h47 hk
      go_wp2_with (at_builtin
                   refine wpList_app rfl (.tmp 46) (.tmp 50) 133 rfl appS rfl (HW.out.alloc _) rfl (oneS _ _) (oneSC [_]) (fun e => by cases e) (by rw [HLL.out]; omega) (by have := HK.out.size; simp; omega) ?_
                   intro v2 w2 h2 hk2 _
                   have HO2 := Lib.hid h2
                   have HK2 := Lib.hid hk2
                   clear h2 hk2)
      go_roundw
      case rel =>
        refine ⟨sb, done ++ [sa.data.toList], rfl, by omega, ?_, ?_, (HK.out.alloc _).trans' HK2.out (fun i hi e => by have := (HW.out.lt i e.symm).1; omega)⟩
        · have h1 := HO2.out
          rw [← List.map_append] at h1
          exact h1
        · rw [List.append_assoc, List.cons_append, List.nil_append, HA.out, HB.out, ← HSG.out]; exact HD.out
      case measure => simp [lenS]; omega
end Go.Proofs.YtfodkjpjejoemaaDoor
