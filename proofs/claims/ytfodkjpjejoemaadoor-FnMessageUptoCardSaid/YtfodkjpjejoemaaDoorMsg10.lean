/-
  Two proofs compared.
  Conditions: both read as the same proof.
-/
import Derived.Test.YtfodkjpjejoemaaDoorMsg9
namespace Go.Proofs.YtfodkjpjejoemaaDoor
open Go Go.RowKit
attribute [local go_sem ↓] Go.wp_at_zero Go.wp_at_succ

set_option maxHeartbeats 1000000 in
theorem alike_any (v1 v2 : Value) (p : Prf) (w : World) (h1 : PrfV w v1 p) (h2 : PrfV w v2 p) :
    Calls Tryd.prog 22 #[v1, v2] w fun e w' => e = .returned (.bool true) ∧ Keep w w' := by
  obtain ⟨lv, av, rfl, hl, ha, -⟩ := h1
  obtain ⟨lv2, av2, rfl, hl2, ha2, -⟩ := h2
  have HL := Lib.hid hl
  have HA := Lib.hid ha
  have HL2 := Lib.hid hl2
  have HA2 := Lib.hid ha2
  obtain ⟨A0, d0, rfl, -, -, -, -⟩ := hl
  obtain ⟨A1, d1, rfl, -, -, -, -⟩ := ha
  obtain ⟨A2, d2, rfl, -, -, -, -⟩ := hl2
  obtain ⟨A3, d3, rfl, -, -, -, -⟩ := ha2
  have hk : ∀ a b : Obj, Keep w ((w.alloc a).alloc b) := fun a b => ((Kp.refl _ _).alloc _).alloc _
  have HK := Lib.hid hk
  have hll : (p.leaf == p.leaf) = true := by simp
  have haa : (p.aunts == p.aunts) = true := by simp
  have HLL := Lib.hid hll
  have HAA := Lib.hid haa
  clear hk hll haa
  go_enter Tryd.func22, Tryd.ntmps22
  go_wp2_with (first
    | (go_at_call 18
       refine (same2_any _ _ p.leaf p.leaf _ (HL.out.keep (HK.out _ _)) (HL2.out.keep (HK.out _ _))).mono ?_
       rintro e w' ⟨rfl, rfl⟩
       rw [HLL.out])
    | (go_at_call 25
       refine (equalFunc_any _ _ p.aunts p.aunts _ (HA.out.keep (HK.out _ _)) (HA2.out.keep (HK.out _ _))).mono ?_
       rintro e w' ⟨rfl, rfl⟩
       rw [HAA.out]))
  go_ret
  exact ⟨rfl, HK.out _ _⟩
end Go.Proofs.YtfodkjpjejoemaaDoor
