/-
  The digest: what its block holds, New, Reset.
  Conditions: the digest's block is known whole.
-/
import Derived.Test.YtfodkjpjejoemaaDoorSha1
import Derived.Test.YtfodkjpjejoemaaDoorApp
import Derived.Deep.WholeRow
namespace Go.Proofs.YtfodkjpjejoemaaDoor
open Go Go.RowKit

/-- a digest's cells: eight words, 64 bytes, how many of them count, how many were taken in all, not 224 -/
def dgL (h : List W32) (x : List UInt8) (nx len : Nat) : List Value := h.map u32v ++ (x.map u8v ++ [.int .i64 nx, .int .u64 len, .bool false])
structure DgL (w : World) (b : Nat) (h : List W32) (x : List UInt8) (nx len : Nat) : Prop where
  body : w.heap[b]? = some (.cells (dgL h x nx len).toArray 188 (0, 0))
  hlen : h.length = 8
  xlen : x.length = 64
section
variable {w w' : World} {b : Nat} {h : List W32} {x : List UInt8} {nx len : Nat}
theorem DgL.word (d : DgL w b h x nx len) (k : Nat) (hk : k < 8) : w.cell? ⟨b, k, none⟩ = some (u32v (h.getD k 0)) := by
  rw [cell_of_row _ _ _ _ _ _ d.body]
  simp [dgL, List.getElem?_append_left (show k < (h.map u32v).length by simpa [d.hlen] using hk), List.getD, show k < h.length by rw [d.hlen]; exact hk]
theorem DgL.byte (d : DgL w b h x nx len) (k : Nat) (hk : k < 64) : w.cell? ⟨b, 8 + k, none⟩ = some (u8v (x.getD k 0)) := by
  rw [cell_of_row _ _ _ _ _ _ d.body]
  simp [dgL, List.getElem?_append_right, d.hlen, List.getElem?_append_left (show k < (x.map u8v).length by simpa [d.xlen] using hk), List.getD, show k < x.length by rw [d.xlen]; exact hk]
theorem DgL.tail (d : DgL w b h x nx len) : w.cell? ⟨b, 72, none⟩ = some (.int .i64 nx) ∧ w.cell? ⟨b, 73, none⟩ = some (.int .u64 len) ∧ w.cell? ⟨b, 74, none⟩ = some (.bool false) := by
  refine ⟨?_, ?_, ?_⟩ <;> rw [cell_of_row _ _ _ _ _ _ d.body] <;> simp [dgL, List.getElem?_append_right, d.hlen, d.xlen]
theorem DgL.frozen (d : DgL w b h x nx len) (k : Nat) : w.frozen? ⟨b, k, none⟩ = false := frozen_of_row _ _ _ _ _ d.body
theorem DgL.lt (d : DgL w b h x nx len) : b < w.heap.size := lt_of_block d.body
theorem DgL.kp {S : Nat → Prop} (d : DgL w b h x nx len) (k : Kp S w w') (hS : ¬ S b) : DgL w' b h x nx len := ⟨(k.block b d.lt hS).trans d.body, d.hlen, d.xlen⟩
theorem DgL.setWord (d : DgL w b h x nx len) (k : Nat) (hk : k < 8) (u : W32) : DgL (w.setCell ⟨b, k, none⟩ (u32v u)) b (h.set k u) x nx len := by
  refine ⟨?_, by simpa using d.hlen, d.xlen⟩
  rw [heap_setCell_same _ _ _ _ _ _ d.body]
  simp [dgL, List.set_append_left _ _ (show k < (h.map u32v).length by simpa [d.hlen] using hk), List.map_set]
theorem DgL.setNx (d : DgL w b h x nx len) (n : Nat) : DgL (w.setCell ⟨b, 72, none⟩ (.int .i64 n)) b h x n len := by
  refine ⟨?_, d.hlen, d.xlen⟩
  rw [heap_setCell_same _ _ _ _ _ _ d.body]
  simp [dgL, List.set_append_right, d.hlen, d.xlen]
theorem DgL.setLen (d : DgL w b h x nx len) (n : Nat) : DgL (w.setCell ⟨b, 73, none⟩ (.int .u64 n)) b h x nx n := by
  refine ⟨?_, d.hlen, d.xlen⟩
  rw [heap_setCell_same _ _ _ _ _ _ d.body]
  simp [dgL, List.set_append_right, d.hlen, d.xlen]
end

set_option maxRecDepth 100000 in
theorem reset_any (h : List W32) (x : List UInt8) (nx len b : Nat) (w : World) (d : DgL w b h x nx len) :
    Calls Tryd.prog 136 #[.pointer (some ⟨b, 0, none⟩)] w fun e w' => e = .returned (.tuple #[]) ∧ DgL w' b shaIV.list x 0 0 ∧ Kp (fun i => i = b) w w' := by
  have D := Lib.hid d
  obtain ⟨t1, t2, t3⟩ := d.tail
  have w0 := d.word 0 (by decide)
  have w1 := d.word 1 (by decide)
  have w2 := d.word 2 (by decide)
  have w3 := d.word 3 (by decide)
  have w4 := d.word 4 (by decide)
  have w5 := d.word 5 (by decide)
  have w6 := d.word 6 (by decide)
  have w7 := d.word 7 (by decide)
  have hf : ∀ k, w.frozen? ⟨b, k, none⟩ = false := d.frozen
  clear d
  go_enter Tryd.func136, Tryd.ntmps136
  go_wp2
  have hz := D.out.hlen
  go_end0
  refine ⟨rfl, ?_, (((((((((((Kp.refl (fun i => i = b) w).setCell (p := ⟨b, 0, none⟩) (fun _ => rfl) _).setCell (p := ⟨b, 1, none⟩) (fun _ => rfl) _).setCell (p := ⟨b, 2, none⟩) (fun _ => rfl) _).setCell (p := ⟨b, 3, none⟩) (fun _ => rfl) _).setCell (p := ⟨b, 4, none⟩) (fun _ => rfl) _).setCell (p := ⟨b, 5, none⟩) (fun _ => rfl) _).setCell (p := ⟨b, 6, none⟩) (fun _ => rfl) _).setCell (p := ⟨b, 7, none⟩) (fun _ => rfl) _).setCell (p := ⟨b, 72, none⟩) (fun _ => rfl) _).setCell (p := ⟨b, 73, none⟩) (fun _ => rfl) _)⟩
  have e := (((((((((D.out.setWord 0 (by decide) 0x6a09e667).setWord 1 (by decide) 0xbb67ae85).setWord 2 (by decide) 0x3c6ef372).setWord 3 (by decide) 0xa54ff53a).setWord 4 (by decide) 0x510e527f).setWord 5 (by decide) 0x9b05688c).setWord 6 (by decide) 0x1f83d9ab).setWord 7 (by decide) 0x5be0cd19).setNx 0).setLen 0
  have el : (((((((h.set 0 0x6a09e667).set 1 0xbb67ae85).set 2 0x3c6ef372).set 3 0xa54ff53a).set 4 0x510e527f).set 5 0x9b05688c).set 6 0x1f83d9ab).set 7 0x5be0cd19 = shaIV.list := by
    match h, hz with
    | [_, _, _, _, _, _, _, _], _ => rfl
  rw [el] at e
  exact e

theorem zero_digest : Tryd.zeroCells188 = (dgL (List.replicate 8 0) (List.replicate 64 0) 0 0).toArray := by kernel_rfl

theorem new_any (w : World) :
    Calls Tryd.prog 112 #[] w fun e w' => ∃ b x, e = .returned (.pointer (some ⟨b, 0, none⟩)) ∧ w.heap.size ≤ b ∧ DgL w' b shaIV.list x 0 0 ∧ Keep w w' := by
  have d : DgL (w.alloc (Obj.cells Tryd.zeroCells188 188)) w.heap.size (List.replicate 8 0) (List.replicate 64 0) 0 0 := ⟨by rw [heap_alloc_new, zero_digest], rfl, rfl⟩
  have HR := Lib.hid (reset_any _ _ _ _ _ _ d)
  clear d
  go_enter Tryd.func112, Tryd.ntmps112
  go_wp2_with (go_at_call 136; refine HR.out.mono ?_; rintro e w1 ⟨rfl, hd, hk⟩)
  go_ret
  exact ⟨_, _, rfl, Nat.le_refl _, hd, ((Kp.refl _ _).alloc _).trans' hk fun i hi e => by omega⟩
end Go.Proofs.YtfodkjpjejoemaaDoor
