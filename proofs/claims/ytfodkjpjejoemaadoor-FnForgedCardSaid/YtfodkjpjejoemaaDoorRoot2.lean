/-
  Roots of trees: the specification's root.
  Conditions: none (laws).
-/
import Derived.Test.YtfodkjpjejoemaaDoorRoot1
import Derived.Deep.RegionWith
namespace Go.Proofs.YtfodkjpjejoemaaDoor
open Go Go.RowKit

/-- the root of a tree over a list of leaves -/
def rootS (L : List (List UInt8)) : List UInt8 := tree innerS (sha []) (L.map leafS)
theorem rootS_nil : rootS [] = sha [] := rfl
theorem rootS_one (b : List UInt8) : rootS [b] = leafS b := rfl
theorem rootS_more (L : List (List UInt8)) (h : 2 ≤ L.length) : rootS L = innerS (rootS (L.take (splt L.length))) (rootS (L.drop (splt L.length))) := by
  unfold rootS
  rw [tree_more innerS (sha []) (L.map leafS) (by simpa using h), List.length_map, List.map_take, List.map_drop]
theorem rootS_length (L : List (List UInt8)) : (rootS L).length = 32 := by
  by_cases h : 2 ≤ L.length
  · rw [rootS_more L h]; exact sha_length _
  · match L, h with
    | [], _ => exact sha_length _
    | [b], _ => exact sha_length _
    | a :: b :: t, h => simp at h
end Go.Proofs.YtfodkjpjejoemaaDoor
