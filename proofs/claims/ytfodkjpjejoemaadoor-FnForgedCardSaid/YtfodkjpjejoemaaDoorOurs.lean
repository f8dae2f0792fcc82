/-
  A proof handed out of the package, and two proofs compared.
  Conditions: the block's cells hold a proof; both read as the same proof.
-/
import Derived.Test.YtfodkjpjejoemaaDoorValid3
import Derived.Test.YtfodkjpjejoemaaDoorSame
import Derived.Deep.RegionHeld3
namespace Go.Proofs.YtfodkjpjejoemaaDoor
open Go Go.RowKit
attribute [local go_sem ↓] Go.wp_at_zero Go.wp_at_succ

set_option maxHeartbeats 1000000 in
theorem implOurs_any (b : Nat) (p : Prf) (w : World) (lv av : Value) (hl : Byts w lv p.leaf) (ha : Mat w av p.aunts) (c0 : w.cell? ⟨b, 0, none⟩ = some (.int .i64 p.total)) (c1 : w.cell? ⟨b, 1, none⟩ = some (.int .i64 p.index)) (c2 : w.cell? ⟨b, 2, none⟩ = some lv) (c3 : w.cell? ⟨b, 3, none⟩ = some av) :
    Calls Tryd.prog 58 #[.pointer (some ⟨b, 0, none⟩)] w fun e w' => e = .returned (.agg #[.int .i64 p.total, .int .i64 p.index, lv, av]) ∧ Keep w w' := by
  obtain ⟨A0, d0, rfl, -, -, -, -⟩ := hl
  obtain ⟨A1, d1, rfl, -, -, -, -⟩ := ha
  have lb := World.block_lt_of_cell? w _ c0
  simp only at lb
  go_enter Tryd.func58, Tryd.ntmps58
  go_wp2_with fail
  go_region_held3 (fun w' => w'.cell? ⟨b, 0, none⟩ = some (.int .i64 p.total) ∧ w'.cell? ⟨b, 1, none⟩ = some (.int .i64 p.index) ∧ w'.cell? ⟨b, 2, none⟩ = some (.slice A0 p.leaf.length d0) ∧ w'.cell? ⟨b, 3, none⟩ = some (.slice A1 p.aunts.length d1)) (first | go_keep) (first | fail)
  go_wp2_with fail
  have hk : Keep w (w.alloc (Obj.cells #[.int .i64 p.total, .int .i64 p.index, .slice A0 p.leaf.length d0, .slice A1 p.aunts.length d1] 25)).drew := ((Kp.refl _ _).alloc _).drew
  exact bodyPost_ret (v := .agg #[.int .i64 p.total, .int .i64 p.index, .slice A0 p.leaf.length d0, .slice A1 p.aunts.length d1]) (by simp [results, Tryd.results58, go_sem]) rfl ⟨rfl, hk⟩

set_option maxHeartbeats 1000000 in
theorem alike_any (v1 v2 : Value) (p : Prf) (w : World) (h1 : PrfV w v1 p) (h2 : PrfV w v2 p) :
    Calls Tryd.prog 22 #[v1, v2] w fun e w' => e = .returned (.bool true) ∧ Keep w w' := by
  obtain ⟨lv, av, rfl, hl, ha, -⟩ := h1
  obtain ⟨lv2, av2, rfl, hl2, ha2, -⟩ := h2
  have HL := Lib.hid hl
  have HA := Lib.hid ha
  have HL2 := Lib.hid hl2
  have HA2 := Lib.hid ha2
  obtain ⟨A0, d0, rfl, -, -, -, -⟩ := hl
  obtain ⟨A1, d1, rfl, -, -, -, -⟩ := ha
  obtain ⟨A2, d2, rfl, -, -, -, -⟩ := hl2
  obtain ⟨A3, d3, rfl, -, -, -, -⟩ := ha2
  have hk : ∀ a b : Obj, Keep w ((w.alloc a).alloc b) := fun a b => ((Kp.refl _ _).alloc _).alloc _
  have HK := Lib.hid hk
  have hll : (p.leaf == p.leaf) = true := by simp
  have haa : (p.aunts == p.aunts) = true := by simp
  have HLL := Lib.hid hll
  have HAA := Lib.hid haa
  clear hk hll haa
  go_enter Tryd.func22, Tryd.ntmps22
  go_wp2_with (first
    | (go_at_call 18
       refine (same2_any _ _ p.leaf p.leaf _ (HL.out.keep (HK.out _ _)) (HL2.out.keep (HK.out _ _))).mono ?_
       rintro e w' ⟨rfl, rfl⟩
       rw [HLL.out])
    | (go_at_call 25
       refine (equalFunc_any _ _ p.aunts p.aunts _ (HA.out.keep (HK.out _ _)) (HA2.out.keep (HK.out _ _))).mono ?_
       rintro e w' ⟨rfl, rfl⟩
       rw [HAA.out]))
  go_ret
  exact ⟨rfl, HK.out _ _⟩
end Go.Proofs.YtfodkjpjejoemaaDoor
