/-
  Facts of the program's types that appends and slices want.
  Conditions: none (closed facts).
-/
import Derived.Test.YtfodkjpjejoemaaDoorByp
import Derived.Test.YtfodkjpjejoemaaDoorSha0
namespace Go.Proofs.YtfodkjpjejoemaaDoor
open Go Go.RowKit

theorem appB : AppOk Tryd.prog 22 5 1 := by
  obtain ⟨i0, hi, hz0, hz1, hz2⟩ := info_parts (show (Tryd.prog.info? 5).map (fun i => (i.zero, i.size, i.bytes)) = some (some (.int .u8 0), 1, 1) by kernel_rfl)
  exact ⟨Tryd.underlying22, by omega, i0, _, hi, hz0, hz1, hz2, rfl⟩
theorem one1 (L : List UInt8) : ∀ u ∈ L.map u8v, u.oneCell' = true := by
  intro u hu; obtain ⟨x, _, rfl⟩ := List.mem_map.1 hu; rfl
theorem oneB (w : World) (x : UInt8) : Src (w.alloc (.cells #[u8v x] 5)) (some ⟨w.heap.size, 0, none⟩) 1 ([x].map u8v) := Src.one (by simp)

theorem szB (w : World) : (Go.sizeOf 5).run Tryd.prog w = .ok 1 w := by kernel_rfl
theorem appM : AppOk Tryd.prog 23 22 24 := by
  obtain ⟨i0, hi, hz0, hz1, hz2⟩ := info_parts (show (Tryd.prog.info? 22).map (fun i => (i.zero, i.size, i.bytes)) = some (some (.slice none 0 0), 1, 24) by kernel_rfl)
  exact ⟨Tryd.underlying23, by omega, i0, _, hi, hz0, hz1, hz2, rfl⟩
theorem getElem_snoc {α : Type} (L : List α) (x : α) (i : Nat) (h : i < (L ++ [x]).length) : (∃ h' : i < L.length, (L ++ [x])[i] = L[i]) ∨ (i = L.length ∧ (L ++ [x])[i] = x) := by
  rcases Nat.lt_or_ge i L.length with h' | h'
  · exact .inl ⟨h', List.getElem_append_left h'⟩
  · simp at h
    obtain rfl : i = L.length := by omega
    exact .inr ⟨rfl, by simp⟩

theorem szM (w : World) : (Go.sizeOf 22).run Tryd.prog w = .ok 1 w := by kernel_rfl

theorem errNew2_any (s : ByteArray) (w : World) :
    Calls Tryd.prog 88 #[.string s] w fun e w' => (∃ x, e = .returned (.iface 166 x)) ∧ Keep w w' := by
  go_enter Tryd.func88, Tryd.ntmps88
  go_wp2
  go_ret
  exact ⟨⟨_, rfl⟩, (Kp.refl _ _).alloc _⟩
end Go.Proofs.YtfodkjpjejoemaaDoor
