
/-
  The digest: what its block holds, New, Reset.
  Conditions: the digest's block is known whole.
-/
import Derived.Test.YtfodkjpjejoemaaGreatDoorZb
import Derived.Test.YtfodkjpjejoemaaGreatDoorZa
import Derived.Deep.WholeRow
import Derived.StillTailTactics
import Derived.Deep.RegionHeld3
import Derived.Deep.DrawnRows
namespace Go.Proofs.YtfodkjpjejoemaaGreatDoor
open Go Go.RowKit

/-- a digest's cells: eight words, 64 bytes, how many of them count, how many were taken in all, not 224 -/
def dgL (h : List W32) (x : List UInt8) (nx len : Nat) : List Value := h.map u32v ++ (x.map u8v ++ [.int .i64 nx, .int .u64 len, .bool false])
structure DgL (w : World) (b : Nat) (h : List W32) (x : List UInt8) (nx len : Nat) : Prop where
  body : w.heap[b]? = some (.cells (dgL h x nx len).toArray 147 (0, 0))
  hlen : h.length = 8
  xlen : x.length = 64
section
variable {w w' : World} {b : Nat} {h : List W32} {x : List UInt8} {nx len : Nat}
theorem DgL.word (d : DgL w b h x nx len) (k : Nat) (hk : k < 8) : w.cell? ⟨b, k, none⟩ = some (u32v (h.getD k 0)) := by
  rw [cell_of_row _ _ _ _ _ _ d.body]
  simp [dgL, List.getElem?_append_left (show k < (h.map u32v).length by simpa [d.hlen] using hk), List.getD, show k < h.length by rw [d.hlen]; exact hk]
theorem DgL.byte (d : DgL w b h x nx len) (k : Nat) (hk : k < 64) : w.cell? ⟨b, 8 + k, none⟩ = some (u8v (x.getD k 0)) := by
  rw [cell_of_row _ _ _ _ _ _ d.body]
  simp [dgL, List.getElem?_append_right, d.hlen, List.getElem?_append_left (show k < (x.map u8v).length by simpa [d.xlen] using hk), List.getD, show k < x.length by rw [d.xlen]; exact hk]
theorem DgL.tail (d : DgL w b h x nx len) : w.cell? ⟨b, 72, none⟩ = some (.int .i64 nx) ∧ w.cell? ⟨b, 73, none⟩ = some (.int .u64 len) ∧ w.cell? ⟨b, 74, none⟩ = some (.bool false) := by
  refine ⟨?_, ?_, ?_⟩ <;> rw [cell_of_row _ _ _ _ _ _ d.body] <;> simp [dgL, d.hlen, d.xlen]
theorem DgL.frozen (d : DgL w b h x nx len) (k : Nat) : w.frozen? ⟨b, k, none⟩ = false := frozen_of_row _ _ _ _ _ d.body
theorem DgL.lt (d : DgL w b h x nx len) : b < w.heap.size := lt_of_block d.body
theorem DgL.kp {S : Nat → Prop} (d : DgL w b h x nx len) (k : Kp S w w') (hS : ¬ S b) : DgL w' b h x nx len := ⟨(k.block b d.lt hS).trans d.body, d.hlen, d.xlen⟩
theorem DgL.setWord (d : DgL w b h x nx len) (k : Nat) (hk : k < 8) (u : W32) : DgL (w.setCell ⟨b, k, none⟩ (u32v u)) b (h.set k u) x nx len := by
  refine ⟨?_, by simpa using d.hlen, d.xlen⟩
  rw [heap_setCell_same _ _ _ _ _ _ d.body]
  simp [dgL, List.set_append_left _ _ (show k < (h.map u32v).length by simpa [d.hlen] using hk), List.map_set]
theorem DgL.setNx (d : DgL w b h x nx len) (n : Nat) : DgL (w.setCell ⟨b, 72, none⟩ (.int .i64 n)) b h x n len := by
  refine ⟨?_, d.hlen, d.xlen⟩
  rw [heap_setCell_same _ _ _ _ _ _ d.body]
  simp [dgL, List.set_append_right, d.hlen, d.xlen]
theorem DgL.setLen (d : DgL w b h x nx len) (n : Nat) : DgL (w.setCell ⟨b, 73, none⟩ (.int .u64 n)) b h x nx n := by
  refine ⟨?_, d.hlen, d.xlen⟩
  rw [heap_setCell_same _ _ _ _ _ _ d.body]
  simp [dgL, List.set_append_right, d.hlen, d.xlen]
end

set_option maxRecDepth 100000 in
theorem reset_any (h : List W32) (x : List UInt8) (nx len b : Nat) (w : World) (d : DgL w b h x nx len) :
    Calls Tryz.prog 66 #[.pointer (some ⟨b, 0, none⟩)] w fun e w' => e = .returned (.tuple #[]) ∧ DgL w' b shaIV.list x 0 0 ∧ Kp (fun i => i = b) w w' := by
  have D := Lib.hid d
  obtain ⟨t1, t2, t3⟩ := d.tail
  have w0 := d.word 0 (by decide)
  have w1 := d.word 1 (by decide)
  have w2 := d.word 2 (by decide)
  have w3 := d.word 3 (by decide)
  have w4 := d.word 4 (by decide)
  have w5 := d.word 5 (by decide)
  have w6 := d.word 6 (by decide)
  have w7 := d.word 7 (by decide)
  have hf : ∀ k, w.frozen? ⟨b, k, none⟩ = false := d.frozen
  clear d
  go_enter Tryz.func66, Tryz.ntmps66
  go_wp2
  have hz := D.out.hlen
  go_end0
  refine ⟨rfl, ?_, (((((((((((Kp.refl (fun i => i = b) w).setCell (p := ⟨b, 0, none⟩) (fun _ => rfl) _).setCell (p := ⟨b, 1, none⟩) (fun _ => rfl) _).setCell (p := ⟨b, 2, none⟩) (fun _ => rfl) _).setCell (p := ⟨b, 3, none⟩) (fun _ => rfl) _).setCell (p := ⟨b, 4, none⟩) (fun _ => rfl) _).setCell (p := ⟨b, 5, none⟩) (fun _ => rfl) _).setCell (p := ⟨b, 6, none⟩) (fun _ => rfl) _).setCell (p := ⟨b, 7, none⟩) (fun _ => rfl) _).setCell (p := ⟨b, 72, none⟩) (fun _ => rfl) _).setCell (p := ⟨b, 73, none⟩) (fun _ => rfl) _)⟩
  have e := (((((((((D.out.setWord 0 (by decide) 0x6a09e667).setWord 1 (by decide) 0xbb67ae85).setWord 2 (by decide) 0x3c6ef372).setWord 3 (by decide) 0xa54ff53a).setWord 4 (by decide) 0x510e527f).setWord 5 (by decide) 0x9b05688c).setWord 6 (by decide) 0x1f83d9ab).setWord 7 (by decide) 0x5be0cd19).setNx 0).setLen 0
  have el : (((((((h.set 0 0x6a09e667).set 1 0xbb67ae85).set 2 0x3c6ef372).set 3 0xa54ff53a).set 4 0x510e527f).set 5 0x9b05688c).set 6 0x1f83d9ab).set 7 0x5be0cd19 = shaIV.list := by
    match h, hz with
    | [_, _, _, _, _, _, _, _], _ => rfl
  rw [el] at e
  exact e

theorem zero_digest : Tryz.zeroCells147 = (dgL (List.replicate 8 0) (List.replicate 64 0) 0 0).toArray := by kernel_rfl

theorem new_any (w : World) :
    Calls Tryz.prog 54 #[] w fun e w' => ∃ b x, e = .returned (.pointer (some ⟨b, 0, none⟩)) ∧ w.heap.size ≤ b ∧ DgL w' b shaIV.list x 0 0 ∧ Keep w w' := by
  have d : DgL (w.alloc (Obj.cells Tryz.zeroCells147 147)) w.heap.size (List.replicate 8 0) (List.replicate 64 0) 0 0 := ⟨by rw [heap_alloc_new, zero_digest], rfl, rfl⟩
  have HR := Lib.hid (reset_any _ _ _ _ _ _ d)
  clear d
  go_enter Tryz.func54, Tryz.ntmps54
  go_wp2_with (go_at_call 66; refine HR.out.mono ?_; rintro e w1 ⟨rfl, hd, hk⟩)
  go_ret
  exact ⟨_, _, rfl, Nat.le_refl _, hd, ((Kp.refl _ _).alloc _).trans' hk fun i hi e => by omega⟩
end Go.Proofs.YtfodkjpjejoemaaGreatDoor

/-
  The digest's own words and bytes, the highest byte first: bePutUint32, bePutUint64.
  Conditions: the row written to is known whole.
-/
namespace Go.Proofs.YtfodkjpjejoemaaGreatDoor
open Go Go.RowKit

/-- block g holds the bytes L, whole -/
def ArrB (w : World) (g : Nat) (t : TypeId) (L : List UInt8) : Prop := w.heap[g]? = some (.cells (L.map u8v).toArray t (0, 0))
section
variable {w w' : World} {g : Nat} {t : TypeId} {L : List UInt8}
theorem ArrB.cell (h : ArrB w g t L) (k : Nat) (hk : k < L.length) : w.cell? ⟨g, k, none⟩ = some (u8v (L.getD k 0)) := by
  rw [cell_of_row w g k _ t (0, 0) h]
  simp [List.getD, hk]
theorem ArrB.frozen (h : ArrB w g t L) (k : Nat) : w.frozen? ⟨g, k, none⟩ = false := frozen_of_row _ _ _ _ _ h
theorem ArrB.lt (h : ArrB w g t L) : g < w.heap.size := lt_of_block h
theorem ArrB.kp {S : Nat → Prop} (h : ArrB w g t L) (k : Kp S w w') (hS : ¬ S g) : ArrB w' g t L := (k.block g h.lt hS).trans h
theorem ArrB.set (h : ArrB w g t L) (k : Nat) (x : UInt8) : ArrB (w.setCell ⟨g, k, none⟩ (u8v x)) g t (L.set k x) := by
  unfold ArrB
  rw [heap_setCell_same _ _ _ _ _ _ h]
  simp [List.map_set]
end

theorem byteC {n : Int} {x : Nat} (h : n = ((x % 256 : Nat) : Int)) : Value.int .u8 n = u8v (UInt8.ofNat x) := by
  subst h; simp [UInt8.toNat_ofNat']

/-- the four bytes of a word at an offset -/
def put32 (L : List UInt8) (o : Nat) (x : W32) : List UInt8 :=
  (((L.set o (UInt8.ofNat (x >>> 24).toNat)).set (o + 1) (UInt8.ofNat (x >>> 16).toNat)).set (o + 2) (UInt8.ofNat (x >>> 8).toNat)).set (o + 3) (UInt8.ofNat x.toNat)

theorem be32_any (g o n c : Nat) (t : TypeId) (L : List UInt8) (x : W32) (w : World) (h : ArrB w g t L) (hn : 4 ≤ n) (ho : o + 4 ≤ L.length) (hc : n ≤ 4294967296) :
    Calls Tryz.prog 100 #[.slice (some ⟨g, o, none⟩) n c, u32v x] w fun e w' => e = .returned (.tuple #[]) ∧ ArrB w' g t (put32 L o x) ∧ Kp (fun i => i = g) w w' := by
  have H := Lib.hid h
  have c0 := h.cell o (by omega)
  have c1 := h.cell (o + 1) (by omega)
  have c2 := h.cell (o + 2) (by omega)
  have c3 := h.cell (o + 3) (by omega)
  have hf : ∀ k, w.frozen? ⟨g, k, none⟩ = false := h.frozen
  have n0 : (0 : Int) < (n : Int) := by omega
  have n1 : (1 : Int) < (n : Int) := by omega
  have n2 : (2 : Int) < (n : Int) := by omega
  have n3 : (3 : Int) < (n : Int) := by omega
  clear h
  go_enter Tryz.func100, Tryz.ntmps100
  go_wp2
  rw [byteC (x := (x >>> 24).toNat) (by have := w_shr24 x; have := x.isLt; omega), byteC (x := (x >>> 16).toNat) (by have := w_shr16 x; omega), byteC (x := (x >>> 8).toNat) (by have := w_shr8 x; omega), byteC (n := (x.toNat : Int) % 256) (x := x.toNat) (by omega)]
  go_end0
  exact ⟨rfl, (((H.out.set o _).set (o + 1) _).set (o + 2) _).set (o + 3) _, ((((Kp.refl (fun i => i = g) w).setCell (p := ⟨g, o, none⟩) (fun _ => rfl) _).setCell (p := ⟨g, o + 1, none⟩) (fun _ => rfl) _).setCell (p := ⟨g, o + 2, none⟩) (fun _ => rfl) _).setCell (p := ⟨g, o + 3, none⟩) (fun _ => rfl) _⟩

/-- the first k of a number's eight bytes at an offset -/
def put64 (L : List UInt8) (o N : Nat) : Nat → List UInt8
  | 0 => L
  | k + 1 => (put64 L o N k).set (o + k) (UInt8.ofNat (N / 2 ^ (56 - 8 * k)))
theorem put64_length (L : List UInt8) (o N k : Nat) : (put64 L o N k).length = L.length := by
  induction k with
  | zero => rfl
  | succ k ih => simp [put64, ih]

set_option maxHeartbeats 1000000 in
theorem be64_any (g o n c N : Nat) (t : TypeId) (L : List UInt8) (w : World) (h : ArrB w g t L) (hn : 8 ≤ n) (ho : o + 8 ≤ L.length) (hc : n ≤ 4294967296) (hN : N < 18446744073709551616) :
    Calls Tryz.prog 99 #[.slice (some ⟨g, o, none⟩) n c, .int .u64 N] w fun e w' => e = .returned (.tuple #[]) ∧ ArrB w' g t (put64 L o N 8) ∧ Kp (fun i => i = g) w w' := by
  have H := Lib.hid h
  have c7 := h.cell (o + 7) (by omega)
  have n7 : (7 : Int) < (n : Int) := by omega
  clear h
  go_enter Tryz.func99, Tryz.ntmps99
  go_wp2
  go_loopw [4] (fun i wr => ∃ k : Nat, k ≤ 8 ∧ i = .int .i64 k ∧ ArrB wr g t (put64 L o N k) ∧ Kp (fun i => i = g) w wr) (fun i _ => 8 - (intOf i).toNat)
  case atStart => exact ⟨0, by omega, rfl, H.out, Kp.refl _ _⟩
  case round =>
    obtain ⟨k, hk, rfl, hb, hkp⟩ := hrel
    have HB := Lib.hid hb
    have HK := Lib.hid hkp
    by_cases hlt : k < 8
    · have d0 := hb.cell (o + k) (by rw [put64_length]; omega)
      have hf := hb.frozen (o + k)
      have HS := Lib.hid (show put64 L o N (k + 1) = (put64 L o N k).set (o + k) (UInt8.ofNat (N / 2 ^ (56 - 8 * k))) from rfl)
      generalize (put64 L o N k).getD (o + k) 0 = u at d0
      clear hb hkp c7
      obtain rfl | rfl | rfl | rfl | rfl | rfl | rfl | rfl : k = 0 ∨ k = 1 ∨ k = 2 ∨ k = 3 ∨ k = 4 ∨ k = 5 ∨ k = 6 ∨ k = 7 := by omega
      · simp only [Nat.add_zero] at d0 hf
        go_wp2
        rw [byteC (x := N / 2 ^ (56 - 8 * 0)) (by simp only [Nat.reducePow, Nat.reduceMul, Nat.reduceSub]; omega)]
        go_roundw
        case rel => exact ⟨0 + 1, by omega, rfl, by rw [HS.out]; exact HB.out.set (o + 0) _, HK.out.setCell (p := ⟨g, o + 0, none⟩) (fun _ => rfl) _⟩
        case measure => simp [intOf]
      · go_wp2
        rw [byteC (x := N / 2 ^ (56 - 8 * 1)) (by simp only [Nat.reducePow, Nat.reduceMul, Nat.reduceSub]; omega)]
        go_roundw
        case rel => exact ⟨1 + 1, by omega, rfl, by rw [HS.out]; exact HB.out.set (o + 1) _, HK.out.setCell (p := ⟨g, o + 1, none⟩) (fun _ => rfl) _⟩
        case measure => simp [intOf]
      · go_wp2
        rw [byteC (x := N / 2 ^ (56 - 8 * 2)) (by simp only [Nat.reducePow, Nat.reduceMul, Nat.reduceSub]; omega)]
        go_roundw
        case rel => exact ⟨2 + 1, by omega, rfl, by rw [HS.out]; exact HB.out.set (o + 2) _, HK.out.setCell (p := ⟨g, o + 2, none⟩) (fun _ => rfl) _⟩
        case measure => simp [intOf]
      · go_wp2
        rw [byteC (x := N / 2 ^ (56 - 8 * 3)) (by simp only [Nat.reducePow, Nat.reduceMul, Nat.reduceSub]; omega)]
        go_roundw
        case rel => exact ⟨3 + 1, by omega, rfl, by rw [HS.out]; exact HB.out.set (o + 3) _, HK.out.setCell (p := ⟨g, o + 3, none⟩) (fun _ => rfl) _⟩
        case measure => simp [intOf]
      · go_wp2
        rw [byteC (x := N / 2 ^ (56 - 8 * 4)) (by simp only [Nat.reducePow, Nat.reduceMul, Nat.reduceSub]; omega)]
        go_roundw
        case rel => exact ⟨4 + 1, by omega, rfl, by rw [HS.out]; exact HB.out.set (o + 4) _, HK.out.setCell (p := ⟨g, o + 4, none⟩) (fun _ => rfl) _⟩
        case measure => simp [intOf]
      · go_wp2
        rw [byteC (x := N / 2 ^ (56 - 8 * 5)) (by simp only [Nat.reducePow, Nat.reduceMul, Nat.reduceSub]; omega)]
        go_roundw
        case rel => exact ⟨5 + 1, by omega, rfl, by rw [HS.out]; exact HB.out.set (o + 5) _, HK.out.setCell (p := ⟨g, o + 5, none⟩) (fun _ => rfl) _⟩
        case measure => simp [intOf]
      · go_wp2
        rw [byteC (x := N / 2 ^ (56 - 8 * 6)) (by simp only [Nat.reducePow, Nat.reduceMul, Nat.reduceSub]; omega)]
        go_roundw
        case rel => exact ⟨6 + 1, by omega, rfl, by rw [HS.out]; exact HB.out.set (o + 6) _, HK.out.setCell (p := ⟨g, o + 6, none⟩) (fun _ => rfl) _⟩
        case measure => simp [intOf]
      · go_wp2
        rw [byteC (x := N / 2 ^ (56 - 8 * 7)) (by simp only [Nat.reducePow, Nat.reduceMul, Nat.reduceSub]; omega)]
        go_roundw
        case rel => exact ⟨7 + 1, by omega, rfl, by rw [HS.out]; exact HB.out.set (o + 7) _, HK.out.setCell (p := ⟨g, o + 7, none⟩) (fun _ => rfl) _⟩
        case measure => simp [intOf]
    · obtain rfl : k = 8 := by omega
      go_wp2
      go_end0
      exact ⟨rfl, HB.out, HK.out⟩
end Go.Proofs.YtfodkjpjejoemaaGreatDoor

/-
  blockGeneric's rounds: one round each, the word taken from the block or reckoned from the words before.
  Conditions: the frame is the function's own; the table's word and the schedule's words are known.
-/
namespace Go.Proofs.YtfodkjpjejoemaaGreatDoor
open Go Go.RowKit
attribute [local go_sem ↓] Go.wp_at_zero Go.wp_at_succ

def firstLoop : Code → Option Code
  | .loop c => some c
  | .seq a b => match firstLoop a with
    | some c => some c
    | none => firstLoop b
  | .block _ c => firstLoop c
  | .scope c => firstLoop c
  | .cond _ a b => match firstLoop a with
    | some c => some c
    | none => firstLoop b
  | _ => none
/-- the body of the rounds' loop -/
noncomputable def innerBody : Code := (((Tryz.f98.body.bind firstLoop).bind firstLoop).getD .skip)
theorem rotl_quiet (x : W32) (n q : Nat) (w : World) (h0 : 0 < n) (h : n < 32) :
    Calls Tryz.prog 103 #[u32v x, .int .i64 (-(n : Int))] (w.drewN q) fun e w' => e = .returned (u32v (rotr x n)) ∧ ∃ m, w' = w.drewN m :=
  (rotl_any x n (w.drewN q) h0 h).mono fun _ _ ⟨he, hm⟩ => ⟨he, q, hm.symm⟩
theorem take_set_next (p : List UInt8) (V : List W32) (q : Nat) (h : q < V.length) (ht : V.take q = shaW p q) : (V.set q (shaNext p (shaW p q) q)).take (q + 1) = shaW p (q + 1) := by
  rw [List.take_succ_eq_append_getElem (by simpa using h), List.take_set_of_le (Nat.le_refl q), ht, shaW]
  simp
theorem getD_of_take {V l : List W32} {q j : Nat} (ht : V.take q = l) (h : j < q) : V.getD j 0 = l.getD j 0 := by
  rw [← ht]; simp [List.getD, List.getElem?_take_of_lt h]
theorem byteW_nat' (x : UInt8) : (x.toNat : Int) = ((byteW x).toNat : Int) := by
  unfold byteW
  rw [BitVec.toNat_ofNat, Nat.mod_eq_of_lt (by have := x.toNat_lt; omega)]
theorem wrapB (x : UInt8) : IntKind.u32.wrap (x.toNat : Int) = ((byteW x).toNat : Int) := by
  rw [byteW_nat', IntKind.wrap_u32']; have := (byteW x).isLt; omega
theorem wrap24 (x : W32) : IntKind.u32.wrap ((x.toNat : Int) * 16777216) = ((x <<< 24).toNat : Int) := by rw [IntKind.wrap_u32', w_shl24]
theorem wrap16 (x : W32) : IntKind.u32.wrap ((x.toNat : Int) * 65536) = ((x <<< 16).toNat : Int) := by rw [IntKind.wrap_u32', w_shl16]
theorem wrap8 (x : W32) : IntKind.u32.wrap ((x.toNat : Int) * 256) = ((x <<< 8).toNat : Int) := by rw [IntKind.wrap_u32', w_shl8]
theorem DgL.drew {w : World} {b : Nat} {h : List W32} {x : List UInt8} {nx len : Nat} (d : DgL w b h x nx len) : DgL w.drew b h x nx len := ⟨d.body, d.hlen, d.xlen⟩
theorem sz1 (w : World) : (Go.sizeOf 5).run Tryz.prog w = .ok 1 w := by kernel_rfl

set_option maxRecDepth 1000000 in
set_option maxHeartbeats 40000000 in
theorem roundA (x0 x2 x3 x5 x6 x7 x8 x9 x10 x11 x12 x21 x22 x23 x24 x25 x26 x27 x28 x29 x30 x31 x32 x33 x34 x35 x36 x37 x38 x39 x40 x41 x42 x43 x44 x45 x46 x47 x48 x49 x50 x51 x52 x53 x54 x55 x56 x57 x58 x59 x60 x61 x62 x63 x64 x65 x66 x67 x68 x69 x70 x71 x72 x73 x74 x75 x76 x77 x78 x79 x81 x82 x83 x84 x85 x86 x87 x88 x89 x90 x91 x92 x93 x94 x95 x96 x97 x98 x99 x100 x101 x102 x103 x104 x105 x106 x107 x108 x109 x110 x111 x112 x113 x114 x115 x116 x117 x118 x119 x120 x121 x122 x123 x124 x125 x126 x127 x128 x129 x130 x131 x132 x133 x134 x135 x136 x137 x138 x139 x140 x141 x142 x143 x144 x145 x146 x147 x148 x149 x150 x151 x152 x153 x154 x155 x156 x157 x158 x159 x160 x161 x162 x163 x164 x165 x166 x167 x168 x169 x170 x171 x172 x173 x174 x175 x176 x177 x178 x179 x180 x181 x182 x183 x184 x185 x186 x187 x188 x189 x190 x191 x192 x193 x194 x195 x196 x197 x198 x199 x200 x201 x202 x203 x204 x205 x206 x207 x208 x209 x210 x211 x212 x213 x214 x215 x216 x217 x218 x219 x220 x221 x222 x223 x224 x225 x226 x227 x228 x229 x230 x231 x232 x233 x234 x235 x236 x237 x238 x239 x240 x241 x242 x243 x244 x245 x246 x247 x248 x249 x250 x251 x252 x253 x254 x255 x256 x257 x258 x259 x260 x261 x262 x263 x264 x265 x266 x267 x268 x269 x270 x271 x272 x273 x274 x275 x276 x277 x278 x279 x280 x281 x282 : Value) (q pb poff lp c1 bw : Nat) (p : List UInt8) (V : List W32) (S : St) (wr : World) (K : Act → World → Prop) (Q0 : Exit → Act → World → Prop)
    (hq16 : q < 16) (hl64 : 64 ≤ lp) (hlb : lp ≤ 4294967296) (hpb : pb ≠ bw)
    (hP : ∀ j, j < 64 → wr.cell? ⟨pb, poff + j, none⟩ = some (u8v (p.getD j 0)))
    (hKt : ∀ wx, Kp (fun i => i = bw) wr wx → wx.cell? ⟨5, q, none⟩ = some (u32v (shaK.getD q 0)))
    (hV : Arr wr bw 68 V) (hVl : V.length = 64) (hVt : V.take q = shaW p q)
    (hK : ∀ (u13 u14 u15 u16 u17 u18 u19 u20 u21 u22 u23 u24 u25 u26 u27 u28 u81 u82 u83 u84 u85 u86 u87 u88 u89 u90 u91 u92 u93 u94 u95 u96 u97 u98 u99 u100 u101 u102 u103 u104 u105 u106 u107 u108 u109 u110 u111 u112 u113 u114 u115 u116 u117 u118 u119 u120 u121 u122 u123 u124 u125 u126 u127 u128 u129 u130 u131 u132 u133 u134 u135 u136 u137 u138 u139 u140 u141 u142 u143 u144 u145 u146 u147 u148 u149 u150 u151 u152 u153 u154 u155 u156 u157 u158 u159 u160 u161 u162 u163 u164 u165 u166 u167 u168 u169 u170 u171 u172 u173 u174 u175 u176 u177 u178 u179 u180 u181 u182 u183 u184 u185 u186 u187 u188 u189 u190 u191 u192 u193 u194 u195 u196 u197 u198 u199 u200 u201 u202 u203 u204 u205 u206 u207 u208 u209 u210 u211 u212 u213 u214 u215 u216 : Value) (wd : World), u13 = u32v (shaRnd (shaK.getD q 0) (shaNext p (shaW p q) q) S).a → u14 = u32v (shaRnd (shaK.getD q 0) (shaNext p (shaW p q) q) S).b → u15 = u32v (shaRnd (shaK.getD q 0) (shaNext p (shaW p q) q) S).c → u16 = u32v (shaRnd (shaK.getD q 0) (shaNext p (shaW p q) q) S).d → u17 = u32v (shaRnd (shaK.getD q 0) (shaNext p (shaW p q) q) S).e → u18 = u32v (shaRnd (shaK.getD q 0) (shaNext p (shaW p q) q) S).f → u19 = u32v (shaRnd (shaK.getD q 0) (shaNext p (shaW p q) q) S).g → u20 = u32v (shaRnd (shaK.getD q 0) (shaNext p (shaW p q) q) S).h → Arr wd bw 68 (V.set q (shaNext p (shaW p q) q)) → Kp (fun i => i = bw) wr wd →
      K ⟨#[x0, .slice (some ⟨pb, poff, none⟩) lp c1, x2, x3, .pointer (some ⟨bw, 0, none⟩), x5, x6, x7, x8, x9, x10, x11, x12, u13, u14, u15, u16, u17, u18, u19, u20, u21, u22, u23, u24, u25, u26, u27, u28, x29, x30, x31, x32, x33, x34, x35, x36, x37, x38, x39, x40, x41, x42, x43, x44, x45, x46, x47, x48, x49, x50, x51, x52, x53, x54, x55, x56, x57, x58, x59, x60, x61, x62, x63, x64, x65, x66, x67, x68, x69, x70, x71, x72, x73, x74, x75, x76, x77, x78, x79, .int .i64 ((q : Int) + 1), u81, u82, u83, u84, u85, u86, u87, u88, u89, u90, u91, u92, u93, u94, u95, u96, u97, u98, u99, u100, u101, u102, u103, u104, u105, u106, u107, u108, u109, u110, u111, u112, u113, u114, u115, u116, u117, u118, u119, u120, u121, u122, u123, u124, u125, u126, u127, u128, u129, u130, u131, u132, u133, u134, u135, u136, u137, u138, u139, u140, u141, u142, u143, u144, u145, u146, u147, u148, u149, u150, u151, u152, u153, u154, u155, u156, u157, u158, u159, u160, u161, u162, u163, u164, u165, u166, u167, u168, u169, u170, u171, u172, u173, u174, u175, u176, u177, u178, u179, u180, u181, u182, u183, u184, u185, u186, u187, u188, u189, u190, u191, u192, u193, u194, u195, u196, u197, u198, u199, u200, u201, u202, u203, u204, u205, u206, u207, u208, u209, u210, u211, u212, u213, u214, u215, u216, x217, x218, x219, x220, x221, x222, x223, x224, x225, x226, x227, x228, x229, x230, x231, x232, x233, x234, x235, x236, x237, x238, x239, x240, x241, x242, x243, x244, x245, x246, x247, x248, x249, x250, x251, x252, x253, x254, x255, x256, x257, x258, x259, x260, x261, x262, x263, x264, x265, x266, x267, x268, x269, x270, x271, x272, x273, x274, x275, x276, x277, x278, x279, x280, x281, x282], []⟩ wd) :
    Code.wp Tryz.prog innerBody (Exit.then K Q0) ⟨#[x0, .slice (some ⟨pb, poff, none⟩) lp c1, x2, x3, .pointer (some ⟨bw, 0, none⟩), x5, x6, x7, x8, x9, x10, x11, x12, u32v S.a, u32v S.b, u32v S.c, u32v S.d, u32v S.e, u32v S.f, u32v S.g, u32v S.h, x21, x22, x23, x24, x25, x26, x27, x28, x29, x30, x31, x32, x33, x34, x35, x36, x37, x38, x39, x40, x41, x42, x43, x44, x45, x46, x47, x48, x49, x50, x51, x52, x53, x54, x55, x56, x57, x58, x59, x60, x61, x62, x63, x64, x65, x66, x67, x68, x69, x70, x71, x72, x73, x74, x75, x76, x77, x78, x79, .int .i64 (q : Int), x81, x82, x83, x84, x85, x86, x87, x88, x89, x90, x91, x92, x93, x94, x95, x96, x97, x98, x99, x100, x101, x102, x103, x104, x105, x106, x107, x108, x109, x110, x111, x112, x113, x114, x115, x116, x117, x118, x119, x120, x121, x122, x123, x124, x125, x126, x127, x128, x129, x130, x131, x132, x133, x134, x135, x136, x137, x138, x139, x140, x141, x142, x143, x144, x145, x146, x147, x148, x149, x150, x151, x152, x153, x154, x155, x156, x157, x158, x159, x160, x161, x162, x163, x164, x165, x166, x167, x168, x169, x170, x171, x172, x173, x174, x175, x176, x177, x178, x179, x180, x181, x182, x183, x184, x185, x186, x187, x188, x189, x190, x191, x192, x193, x194, x195, x196, x197, x198, x199, x200, x201, x202, x203, x204, x205, x206, x207, x208, x209, x210, x211, x212, x213, x214, x215, x216, x217, x218, x219, x220, x221, x222, x223, x224, x225, x226, x227, x228, x229, x230, x231, x232, x233, x234, x235, x236, x237, x238, x239, x240, x241, x242, x243, x244, x245, x246, x247, x248, x249, x250, x251, x252, x253, x254, x255, x256, x257, x258, x259, x260, x261, x262, x263, x264, x265, x266, x267, x268, x269, x270, x271, x272, x273, x274, x275, x276, x277, x278, x279, x280, x281, x282], []⟩ wr := by
  have HPG := Lib.hid hP
  have HPB := Lib.hid hpb
  have HKC := Lib.hid hKt
  have HV := Lib.hid hV
  have HVL := Lib.hid hVl
  have HVT := Lib.hid hVt
  have HKQ : Hid (Kp (fun i => i = bw) wr wr) := Lib.hid (Kp.refl _ _)
  have HHK := Lib.hid hK
  clear hP hpb hKt hV hVl hVt hK
  have HWN := Lib.hid (shaW_getD p q (q + 1) (by omega))
  obtain ⟨yc, y00⟩ : ∃ u, wr.cell? ⟨bw, q, none⟩ = some u := ⟨_, HV.out.cell q (by rw [HVL.out]; omega)⟩
  have y0 := HV.out.frozen q
  have g0 : (q : Int) < 64 := by omega
  have gz : (0 : Int) ≤ (q : Int) := by omega
  have hq64 : q < 64 := by omega
  obtain ⟨j0, e0⟩ : ∃ j, j = 4 * q := ⟨_, rfl⟩
  have y3 := HKQ.out.cell_of (HPG.out j0 (by omega)) (fun e => HPB.out (by simpa using e))
  have y4 := HKQ.out.cell_of (HPG.out (j0 + 1) (by omega)) (fun e => HPB.out (by simpa using e))
  have y5 := HKQ.out.cell_of (HPG.out (j0 + 2) (by omega)) (fun e => HPB.out (by simpa using e))
  have y6 := HKQ.out.cell_of (HPG.out (j0 + 3) (by omega)) (fun e => HPB.out (by simpa using e))
  have HNX := Lib.hid (show shaNext p (shaW p q) q = byteW (p.getD j0 0) <<< 24 ||| byteW (p.getD (j0 + 1) 0) <<< 16 ||| byteW (p.getD (j0 + 2) 0) <<< 8 ||| byteW (p.getD (j0 + 3) 0) by unfold shaNext; rw [if_pos hq16, e0]; rfl)
  generalize p.getD j0 0 = b0 at y3 HNX
  generalize p.getD (j0 + 1) 0 = b1 at y4 HNX
  generalize p.getD (j0 + 2) 0 = b2 at y5 HNX
  generalize p.getD (j0 + 3) 0 = b3 at y6 HNX
  rw [← Nat.add_assoc] at y4 y5 y6
  have f0 : (q : Int) * 4 = (j0 : Int) := by omega
  obtain ⟨j1, e1⟩ : ∃ j, j = j0 + 1 := ⟨_, rfl⟩
  obtain ⟨j2, e2⟩ : ∃ j, j = j0 + 2 := ⟨_, rfl⟩
  obtain ⟨j3, e3⟩ : ∃ j, j = j0 + 3 := ⟨_, rfl⟩
  rw [Nat.add_assoc, ← e1] at y4
  rw [Nat.add_assoc, ← e2] at y5
  rw [Nat.add_assoc, ← e3] at y6
  have i0 : (0 : Int) ≤ (j0 : Int) := by omega
  have i00 : (j0 : Int) < (lp : Int) := by omega
  have i01 : (0 : Int) ≤ (j1 : Int) := by omega
  have i02 : (j1 : Int) < (lp : Int) := by omega
  have i03 : (0 : Int) ≤ (j2 : Int) := by omega
  have i04 : (j2 : Int) < (lp : Int) := by omega
  have i05 : (0 : Int) ≤ (j3 : Int) := by omega
  have i06 : (j3 : Int) < (lp : Int) := by omega
  have i1 : IntKind.i64.wrap ((j0 : Int) + 1) = (j1 : Int) := by rw [IntKind.wrap_i64]; omega
  have i2 : IntKind.i64.wrap ((j0 : Int) + 2) = (j2 : Int) := by rw [IntKind.wrap_i64]; omega
  have i3 : IntKind.i64.wrap ((j0 : Int) + 3) = (j3 : Int) := by rw [IntKind.wrap_i64]; omega
  clear e0 e1 e2 e3
  conv => arg 2; whnf
  go_wp2
  go_still_tail 31, (by kernel_rfl)
  change wpList _ _ _ _ _ wr.drew
  rw [wrapB b0, wrapB b1, wrapB b2, wrapB b3, wrap24, wrap16, wrap8, w_or, w_or, w_or]
  obtain ⟨xw, hxw⟩ : ∃ x, x = byteW b0 <<< 24 ||| byteW b1 <<< 16 ||| byteW b2 <<< 8 ||| byteW b3 := ⟨_, rfl⟩
  rw [← hxw] at HNX ⊢
  clear hxw
  go_wp2
  generalize hwd : World.drew _ = wd
  have HVD : Hid (Arr wd bw 68 (V.set q ((shaW p (q + 1)).getD q 0))) := Lib.hid (by rw [← hwd, HWN.out, HNX.out]; exact HV.out.set q _)
  have HKD : Hid (Kp (fun i => i = bw) wr wd) := Lib.hid (by rw [← hwd]; exact (HKQ.out.setCell (p := ⟨bw, q, none⟩) (fun _ => rfl) _).drew)
  obtain ⟨ww, hww⟩ : ∃ x, x = (shaW p (q + 1)).getD q 0 := ⟨_, rfl⟩
  rw [← hww] at HWN HVD
  have HVL2 := Lib.hid (show (V.set q ww).length = 64 by rw [List.length_set, HVL.out])
  have y7 := HVD.out.cell q (by rw [HVL2.out]; omega)
  rw [getD_set_same _ (by rw [HVL.out]; omega)] at y7
  have y8 := HKC.out wd HKD.out
  obtain ⟨kk, hkk⟩ : ∃ x, x = shaK.getD q 0 := ⟨_, rfl⟩
  rw [← hkk] at y8
  have HKK := Lib.hid hkk
  clear hkk
  clear hww
  obtain ⟨m18, h18⟩ : ∃ m, m = bigS1 S.e := ⟨_, rfl⟩
  obtain ⟨m19, h19⟩ : ∃ m, m = shaCh S.e S.f S.g := ⟨_, rfl⟩
  obtain ⟨m20, h20⟩ : ∃ m, m = shaT1 kk ww S := ⟨_, rfl⟩
  obtain ⟨m21, h21⟩ : ∃ m, m = bigS0 S.a := ⟨_, rfl⟩
  obtain ⟨m22, h22⟩ : ∃ m, m = shaMaj S.a S.b S.c := ⟨_, rfl⟩
  have H18 : Hid (rotr S.e 6 ^^^ rotr S.e 11 ^^^ rotr S.e 25 = m18) := Lib.hid h18.symm
  have H19 : Hid (S.e &&& S.f ^^^ ~~~S.e &&& S.g = m19) := Lib.hid h19.symm
  have H20 : Hid (S.h + m18 + m19 + kk + ww = m20) := Lib.hid (by rw [h18, h19, h20]; rfl)
  have H21 : Hid (rotr S.a 2 ^^^ rotr S.a 13 ^^^ rotr S.a 22 = m21) := Lib.hid h21.symm
  have H22 : Hid (S.a &&& S.b ^^^ S.a &&& S.c ^^^ S.b &&& S.c = m22) := Lib.hid h22.symm
  have HRL : Hid (shaRnd kk ww S = ⟨m20 + (m21 + m22), S.a, S.b, S.c, S.d + m20, S.e, S.f, S.g⟩) := Lib.hid (by rw [h20, h21, h22]; rfl)
  clear h18 h19 h20 h21 h22 hwd y0 y00
  go_quiet ((go_at_call 103; exact rotl_quiet _ _ _ _ (by decide) (by decide)))
  rw [w_xor, w_xor, H18.out, w_and, w_not, w_and, w_xor, H19.out, w_add5F, H20.out]
  go_wp2_with (go_at_call 103; refine (rotl_any _ _ _ (by decide) (by decide)).mono ?_; rintro e w' ⟨rfl, rfl⟩)
  rw [w_xor, w_xor, H21.out, w_and, w_and, w_and, w_xor, w_xor, H22.out]
  have HEQ : Hid (shaRnd (shaK.getD q 0) (shaNext p (shaW p q) q) S = ⟨m20 + (m21 + m22), S.a, S.b, S.c, S.d + m20, S.e, S.f, S.g⟩) := Lib.hid (by rw [← HKK.out, ← HWN.out]; exact HRL.out)
  rw [HWN.out] at HVD
  refine HHK.out _ _ _ _ _ _ _ _ _ _ _ _ _ _ _ _ _ _ _ _ _ _ _ _ _ _ _ _ _ _ _ _ _ _ _ _ _ _ _ _ _ _ _ _ _ _ _ _ _ _ _ _ _ _ _ _ _ _ _ _ _ _ _ _ _ _ _ _ _ _ _ _ _ _ _ _ _ _ _ _ _ _ _ _ _ _ _ _ _ _ _ _ _ _ _ _ _ _ _ _ _ _ _ _ _ _ _ _ _ _ _ _ _ _ _ _ _ _ _ _ _ _ _ _ _ _ _ _ _ _ _ _ _ _ _ _ _ _ _ _ _ _ _ _ _ _ _ _ _ _ _ _ _ ?_ ?_ ?_ ?_ ?_ ?_ ?_ ?_ HVD.out (HKD.out.drewN _)
  all_goals rw [HEQ.out]
  · exact congrArg (Value.int .u32) (by simp only [BitVec.toNat_add]; omega)
  · exact congrArg (Value.int .u32) (by simp only [BitVec.toNat_add]; omega)
end Go.Proofs.YtfodkjpjejoemaaGreatDoor
