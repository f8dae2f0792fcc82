
/-
  What a row's list gives of the table of SHA-256's rounds.
  Conditions: the listed variable reads as the program's text lays it.
-/
import Derived.Test.YtfodkjpjejoemaaGreatDoorZe
import Derived.Test.YtfodkjpjejoemaaGreatDoorOpen
import Derived.Lib.LaidTab
namespace Go.Proofs.YtfodkjpjejoemaaGreatDoor
open Go Go.RowKit

def kInts : List Int := [1116352408, 1899447441, 3049323471, 3921009573, 961987163, 1508970993, 2453635748, 2870763221, 3624381080, 310598401, 607225278, 1426881987, 1925078388, 2162078206, 2614888103, 3248222580, 3835390401, 4022224774, 264347078, 604807628, 770255983, 1249150122, 1555081692, 1996064986, 2554220882, 2821834349, 2952996808, 3210313671, 3336571891, 3584528711, 113926993, 338241895, 666307205, 773529912, 1294757372, 1396182291, 1695183700, 1986661051, 2177026350, 2456956037, 2730485921, 2820302411, 3259730800, 3345764771, 3516065817, 3600352804, 4094571909, 275423344, 430227734, 506948616, 659060556, 883997877, 958139571, 1322822218, 1537002063, 1747873779, 1955562222, 2024104815, 2227730452, 2361852424, 2428436474, 2756734187, 3204031479, 3329325298]
theorem kInts_eq : kInts = shaK.map fun x => (x.toNat : Int) := by decide +kernel
theorem gTabK : Tryz.prog.globalNamed "treesandproofs/pub/sha256._K" = some 5 := by kernel_rfl
theorem gTabKType : (Tryz.prog.globals[5]?).map (·.type) = some 68 := by kernel_rfl
theorem ktab_of {W : World} (h : Lib.TabIs Tryz.prog W "treesandproofs/pub/sha256._K" .u32 kInts) : KTab W := fun i hi => by
  have h1 := h.cell gTabK i (by rw [kInts_eq, List.length_map, shaK_length]; exact hi)
  rw [h1, kInts_eq]
  have hl : i < shaK.length := by rw [shaK_length]; exact hi
  simp [List.getD, hl]
theorem ktab_head {W : World} {rest : List (String × DataW Unit)} (h : laidMet Tryz.prog (("treesandproofs/pub/sha256._K", Lib.tabData .u32 kInts) :: rest) W) : KTab W :=
  ktab_of (Lib.tabIs_of_head gTabK gTabKType Tryz.underlying68 Tryz.underlying65 (by kernel_rfl) (by kernel_rfl) h)
end Go.Proofs.YtfodkjpjejoemaaGreatDoor
