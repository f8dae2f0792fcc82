/-
  The words' turns: RotateLeft32 by so many back, the specification's turn.
  Conditions: none.
-/
import Derived.Test.YtfodkjpjejoemaaDoorSha0
import Derived.Deep.QuietTactic
import Derived.BigQuiet
import Derived.Laws.Rows
import Derived.Deep.WholeRow
namespace Go.Proofs.YtfodkjpjejoemaaDoor
open Go Go.RowKit

theorem rotl_any (x : W32) (n : Nat) (w : World) (h0 : 0 < n) (h : n < 32) :
    Calls Tryd.prog 160 #[u32v x, .int .i64 (-(n : Int))] w fun e w' => e = .returned (u32v (rotr x n)) ∧ w = w' := by
  have hb := turn_bits n h0 h
  have hs : IntKind.u64.wrap (32 - ((32 - n : Nat) : Int)) = (n : Int) := by simp [IntKind.wrap, IntKind.bits, IntKind.signed]; omega
  unfold rotr
  rw [BitVec.or_comm]
  obtain ⟨m, hm⟩ : ∃ m, m = 32 - n := ⟨_, rfl⟩
  rw [← hm] at hb hs ⊢
  have hm2 : min m 32 = m := by omega
  have HM : Hid (m ≤ 32) := Lib.hid (by omega)
  clear hm
  go_enter Tryd.func160, Tryd.ntmps160
  go_wp2
  rw [w_shlF _ _ HM.out, w_shrF, w_or]
  go_ret
  exact ⟨rfl, rfl⟩
theorem turn_any (x : W32) (n : Nat) (w : World) (h0 : 0 < n) (h : n < 32) :
    Calls Tryd.prog 53 #[u32v x, .int .i64 n] w fun e w' => e = .returned (u32v (rotr x n)) ∧ ∃ m, w' = w.drewN m := by
  unfold rotr
  obtain ⟨m, hm⟩ : ∃ m, m = 32 - n := ⟨_, rfl⟩
  have hs : (32 : Int) - (n : Int) = (m : Int) := by omega
  rw [← hm]
  have HM : Hid (m ≤ 32) := Lib.hid (by omega)
  clear hm
  go_enter Tryd.func53, Tryd.ntmps53
  go_wp2
  go_quiet (fail)
  rw [w_shlF _ _ HM.out, w_shrF, w_or]
  go_wp2
  go_ret
  exact ⟨rfl, _, rfl⟩

set_option maxRecDepth 100000 in
theorem begin_any (w : World) :
    Calls Tryd.prog 51 #[] w fun e w' => e = .returned (.agg (shaIV.list.map u32v).toArray) ∧ Keep w w' := by
  go_enter Tryd.func51, Tryd.ntmps51
  go_wp2
  refine bodyPost_ret (v := .agg (shaIV.list.map u32v).toArray) (results_cell_row Tryd.results51 _ _ w.heap.size 79 _ (0, 0) _ (by simp) (heap_alloc_new _ _) Tryd.underlying79 rfl (by kernel_rfl)) rfl ⟨rfl, (Kp.refl _ _).alloc _⟩
set_option maxRecDepth 100000 in
set_option maxHeartbeats 1000000 in
theorem rounds_any (w : World) :
    Calls Tryd.prog 52 #[] w fun e w' => e = .returned (.agg (shaK.map u32v).toArray) ∧ Keep w w' := by
  go_enter Tryd.func52, Tryd.ntmps52
  go_wp2_with (first
    | (refine wpList_build rfl 81 _ rfl (by kernel_rfl) ?_; rw [show ((Tryd.prog.built 81 (Array.map _ _).toList).getD #[]) = (shaK.map u32v).toArray by kernel_rfl])
    | (refine wpList_store_row rfl 81 _ _ rfl w.heap.size (shaK.map u32v).toArray rfl rfl 81 _ (heap_alloc_new _ _) (by kernel_rfl) (by kernel_rfl) (by kernel_rfl) ?_))
  rw [World.setRow_alloc_new]
  exact bodyPost_ret (v := .agg (shaK.map u32v).toArray) (results_cell_row Tryd.results52 _ _ w.heap.size 81 _ (0, 0) _ rfl (heap_alloc_new _ _) Tryd.underlying81 rfl (by kernel_rfl)) rfl ⟨rfl, (Kp.refl _ _).alloc _⟩
end Go.Proofs.YtfodkjpjejoemaaDoor
