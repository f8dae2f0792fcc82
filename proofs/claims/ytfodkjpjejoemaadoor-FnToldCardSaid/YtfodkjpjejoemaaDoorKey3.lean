/-
  The keys of a path: net/url's table of bytes, hexadecimal digits by it.
  Conditions: the table's cells hold its numbers.
-/
import Derived.Test.YtfodkjpjejoemaaDoorKey2
namespace Go.Proofs.YtfodkjpjejoemaaDoor
open Go Go.RowKit
attribute [local go_sem ↓] Go.wp_at_zero Go.wp_at_succ

def urlTab : List Int := [0, 0, 0, 0, 0, 0, 0, 0, 0, 0, 0, 0, 0, 0, 0, 0, 0, 0, 0, 0, 0, 0, 0, 0, 0, 0, 0, 0, 0, 0, 0, 0, 0, 76, 12, 0, 95, 0, 95, 12, 76, 76, 76, 95, 93, 127, 127, 65, 255, 255, 255, 255, 255, 255, 255, 255, 255, 255, 79, 93, 12, 95, 12, 64, 67, 255, 255, 255, 255, 255, 255, 127, 127, 127, 127, 127, 127, 127, 127, 127, 127, 127, 127, 127, 127, 127, 127, 127, 127, 127, 127, 12, 0, 12, 0, 127, 0, 255, 255, 255, 255, 255, 255, 127, 127, 127, 127, 127, 127, 127, 127, 127, 127, 127, 127, 127, 127, 127, 127, 127, 127, 127, 127, 0, 0, 0, 127, 0, 0, 0, 0, 0, 0, 0, 0, 0, 0, 0, 0, 0, 0, 0, 0, 0, 0, 0, 0, 0, 0, 0, 0, 0, 0, 0, 0, 0, 0, 0, 0, 0, 0, 0, 0, 0, 0, 0, 0, 0, 0, 0, 0, 0, 0, 0, 0, 0, 0, 0, 0, 0, 0, 0, 0, 0, 0, 0, 0, 0, 0, 0, 0, 0, 0, 0, 0, 0, 0, 0, 0, 0, 0, 0, 0, 0, 0, 0, 0, 0, 0, 0, 0, 0, 0, 0, 0, 0, 0, 0, 0, 0, 0, 0, 0, 0, 0, 0, 0, 0, 0, 0, 0, 0, 0, 0, 0, 0, 0, 0, 0, 0, 0, 0, 0, 0, 0, 0, 0, 0, 0, 0, 0, 0, 0, 0, 0, 0]
theorem urlTab_length : urlTab.length = 256 := by decide +kernel
def UTab (w : World) : Prop := ∀ i, i < 256 → w.cell? ⟨3, i, none⟩ = some (.int .u8 (urlTab.getD i 0))
theorem UTab.keep {w w' : World} (h : UTab w) (k : Keep w w') : UTab w' := fun i hi => k.cell_of (h i hi) (fun x => x)
theorem UTab.drew {w : World} (h : UTab w) : UTab w.drew := h
set_option maxRecDepth 100000 in
theorem tab_fin : ∀ n : Fin 256, (dgN n.val < 0 → bits .and .u8 (urlTab.getD n.val 0) 128 = 0) ∧ (¬ dgN n.val < 0 → bits .and .u8 (urlTab.getD n.val 0) 128 = 128) := by decide +kernel

theorem ishex_any (n : Nat) (w : World) (hn : n < 256) (ht : UTab w) :
    Calls Tryd.prog 139 #[.int .u8 (n : Int)] w fun e w' => e = .returned (.bool (decide (0 ≤ dgN n))) ∧ w = w' := by
  have hc := ht n hn
  have hf := tab_fin ⟨n, hn⟩
  simp only at hf
  obtain ⟨t, hT⟩ : ∃ t, t = urlTab.getD n 0 := ⟨_, rfl⟩
  rw [← hT] at hc hf
  clear hT ht
  by_cases hd : dgN n < 0
  · have ha := hf.1 hd
    have hd2 : decide (0 ≤ dgN n) = false := by simp; omega
    rw [hd2]
    clear hf hd hd2
    go_enter Tryd.func139, Tryd.ntmps139
    go_wp2
    go_ret
    exact ⟨rfl, rfl⟩
  · have ha := hf.2 hd
    have hd2 : decide (0 ≤ dgN n) = true := by simp; omega
    rw [hd2]
    clear hf hd hd2
    go_enter Tryd.func139, Tryd.ntmps139
    go_wp2
    go_ret
    exact ⟨rfl, rfl⟩

set_option maxRecDepth 100000 in
theorem hex_fin : ∀ n : Fin 256, ¬ dgN n.val < 0 → bits .and .u8 (n.val : Int) 15 = ((n.val % 16 : Nat) : Int) ∧ (9 * (n.val / 64 : Nat) + (n.val % 16 : Nat) : Int) = dgN n.val ∧ (n.val / 64) ≤ 1 := by decide +kernel

theorem unhex_any (n : Nat) (w : World) (hn : n < 256) (hd : ¬ dgN n < 0) :
    Calls Tryd.prog 140 #[.int .u8 (n : Int)] w fun e w' => e = .returned (.int .u8 (dgN n)) ∧ w = w' := by
  obtain ⟨h1, h2, h3⟩ := hex_fin ⟨n, hn⟩ hd
  simp only at h1 h2 h3
  clear hd
  rw [← h2]
  clear h2
  go_enter Tryd.func140, Tryd.ntmps140
  go_wp2
  go_ret
  exact ⟨ret_i (by omega), rfl⟩

set_option maxRecDepth 100000 in
theorem or_fin : ∀ a b : Fin 16, bits BinOp.or IntKind.u8 (((a.val : Nat) : Int) * 16 % 256) ((b.val : Nat) : Int) = (((a.val * 16 + b.val : Nat)) : Int) := by decide +kernel
/-- two digits' byte as the walk spells it -/
theorem or_two (a b : UInt8) (ha : ¬ dg a < 0) (hb : ¬ dg b < 0) : bits .or .u8 (dg a * 16 % 256) (dg b) = ((two a b).toNat : Int) := by
  have h1 := dg_lt a
  have h2 := dg_lt b
  have h := or_fin ⟨(dg a).toNat, by omega⟩ ⟨(dg b).toNat, by omega⟩
  simp only at h
  rw [Int.toNat_of_nonneg (by omega), Int.toNat_of_nonneg (by omega)] at h
  rw [h, two_toNat a b ha hb]
  omega
end Go.Proofs.YtfodkjpjejoemaaDoor
