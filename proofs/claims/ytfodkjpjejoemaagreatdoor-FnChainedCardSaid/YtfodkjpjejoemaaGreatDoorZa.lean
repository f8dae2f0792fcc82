
/-
  Words of memory that all texts of this seat use: a slice that reads as a list, whatever its elements; a world of which only some blocks have turned.
  Conditions: none (definitions, and laws on them).
-/
import Derived.Test.YtfodkjpjejoemaaGreatDoorProg
import Derived.WalkKit
import Derived.Deep.Draws
import Derived.Lib.Hide
import Derived.Laws.BitsAllLaws
import Derived.Maps.AppendAt
import Derived.OwnWalk
import Derived.Laws.CopyOwn
import Derived.Lib.SlBytesRow
namespace Go.Proofs.YtfodkjpjejoemaaGreatDoor
open Go Go.RowKit

/-- A world that has grown: blocks outside S are as they were. -/
structure Kp (S : Nat → Prop) (w w' : World) : Prop where
  os : w'.os = w.os
  tape : w'.tape = w.tape
  output : w'.output = w.output
  size : w.heap.size ≤ w'.heap.size
  block : ∀ i, i < w.heap.size → ¬ S i → w'.heap[i]? = w.heap[i]?

abbrev Keep (w w' : World) : Prop := Kp (fun _ => False) w w'

section
variable {S T : Nat → Prop} {w w' w'' : World}
theorem Kp.refl (S : Nat → Prop) (w : World) : Kp S w w := ⟨rfl, rfl, rfl, Nat.le_refl _, fun _ _ _ => rfl⟩
theorem Kp.trans (h : Kp S w w') (k : Kp S w' w'') : Kp S w w'' :=
  ⟨k.os.trans h.os, k.tape.trans h.tape, k.output.trans h.output, Nat.le_trans h.size k.size, fun i hi hs => (k.block i (Nat.lt_of_lt_of_le hi h.size) hs).trans (h.block i hi hs)⟩
/-- what the second step may write need only be new, or in S -/
theorem Kp.trans' (h : Kp S w w') (k : Kp T w' w'') (hT : ∀ i, i < w.heap.size → T i → S i) : Kp S w w'' :=
  ⟨k.os.trans h.os, k.tape.trans h.tape, k.output.trans h.output, Nat.le_trans h.size k.size, fun i hi hs => (k.block i (Nat.lt_of_lt_of_le hi h.size) (fun ht => hs (hT i hi ht))).trans (h.block i hi hs)⟩
theorem Kp.mono (h : Kp S w w') (hT : ∀ i, i < w.heap.size → S i → T i) : Kp T w w' := ⟨h.os, h.tape, h.output, h.size, fun i hi ht => h.block i hi (fun hs => ht (hT i hi hs))⟩
theorem Kp.keep (h : Keep w w') : Kp S w w' := h.mono fun _ _ x => x.elim
theorem Kp.drew (h : Kp S w w') : Kp S w w'.drew := ⟨h.os, h.tape, h.output, h.size, h.block⟩
theorem Kp.drewN (h : Kp S w w') (n : Nat) : Kp S w (w'.drewN n) := ⟨h.os, h.tape, h.output, h.size, h.block⟩
theorem Kp.alloc (h : Kp S w w') (o : Obj) : Kp S w (w'.alloc o) :=
  h.trans ⟨rfl, rfl, rfl, by simp, fun i hi _ => Below.heap_alloc _ _ _ hi⟩
theorem Kp.setCell (h : Kp S w w') {p : Addr} (hp : p.block < w.heap.size → S p.block) (u : Value) : Kp S w (w'.setCell p u) :=
  h.trans' (T := fun i => i = p.block) ⟨rfl, rfl, rfl, by simp [World.setCell], fun i _ hne => Below.heap_setCell _ _ _ _ hne⟩ fun i hi e => by subst e; exact hp hi
theorem Kp.of_below (h : Below w.heap.size w w') : Keep w w' := ⟨h.os, h.tape, h.output, h.size, fun i hi _ => h.block i hi⟩
theorem Kp.below (h : Keep w w') : Below w.heap.size w w' := ⟨h.os, h.tape, h.output, h.size, fun i hi => h.block i hi (fun x => x)⟩
theorem Kp.of_grown {r : Option Nat} (h : w.grownBy w' r) : Kp (fun i => some i = r) w w' := ⟨h.os, h.tape, h.output, h.size, fun i hi hn => h.block i hi hn⟩
theorem Kp.cell (h : Kp S w w') {p : Addr} (hb : p.block < w.heap.size) (hs : ¬ S p.block) : w'.cell? p = w.cell? p := World.cell?_of_block (w := w) (h.block p.block hb hs)
theorem Kp.frozen (h : Kp S w w') {p : Addr} (hb : p.block < w.heap.size) (hs : ¬ S p.block) : w'.frozen? p = w.frozen? p := World.frozen?_of_block (w := w) (h.block p.block hb hs)
/-- a cell that was there is as it was -/
theorem Kp.cell_of (h : Kp S w w') {p : Addr} {u : Value} (hc : w.cell? p = some u) (hs : ¬ S p.block) : w'.cell? p = some u :=
  (h.cell (World.block_lt_of_cell? w p hc) hs).trans hc
/-- the two rules that a walk uses by itself behind a contract -/
theorem Keep.rules (h : Keep w w') : (∀ b o, b < w.heap.size → w'.cell? ⟨b, o, none⟩ = w.cell? ⟨b, o, none⟩) ∧ (∀ b o, b < w.heap.size → w'.frozen? ⟨b, o, none⟩ = w.frozen? ⟨b, o, none⟩) :=
  ⟨fun b o hb => h.cell (p := ⟨b, o, none⟩) hb (fun x => x), fun b o hb => h.frozen (p := ⟨b, o, none⟩) hb (fun x => x)⟩
end

/-- A slice value whose elements (one cell each) are related to the list L by R. -/
def Slc {α : Type} (R : World → Value → α → Prop) (w : World) (v : Value) (L : List α) : Prop :=
  ∃ (A : Option Addr) (c : Nat), v = .slice A L.length c ∧ L.length ≤ c ∧ c ≤ maxLen ∧ (A = none → c = 0) ∧
    (0 < L.length → ∃ b off, A = some ⟨b, off, none⟩ ∧ ∀ i (h : i < L.length), ∃ u, w.cell? ⟨b, off + i, none⟩ = some u ∧ R w u L[i])

def U8 (_ : World) (u : Value) (x : UInt8) : Prop := u = .int .u8 x.toNat
/-- a slice of bytes -/
abbrev Byts (w : World) (v : Value) (bs : List UInt8) : Prop := Slc U8 w v bs
/-- a slice of slices of bytes -/
abbrev Mat (w : World) (v : Value) (L : List (List UInt8)) : Prop := Slc Byts w v L

section
variable {α : Type} {R : World → Value → α → Prop} {w w' : World} {v : Value} {L : List α}
theorem Slc.keepS {S : Nat → Prop} (h : Slc R w v L) (k : Kp S w w') (hS : ∀ A c b off, v = .slice A L.length c → A = some ⟨b, off, none⟩ → ¬ S b) (hR : ∀ u x, x ∈ L → R w u x → R w' u x) : Slc R w' v L := by
  obtain ⟨A, c, hv, h1, h2, h3, h4⟩ := h
  refine ⟨A, c, hv, h1, h2, h3, fun hn => ?_⟩
  obtain ⟨b, off, hA, hc⟩ := h4 hn
  refine ⟨b, off, hA, fun i hi => ?_⟩
  obtain ⟨u, hu, hr⟩ := hc i hi
  exact ⟨u, k.cell_of hu (hS A c b off hv hA), hR u _ (List.getElem_mem hi) hr⟩
theorem Slc.keep (h : Slc R w v L) (k : Keep w w') (hR : ∀ u x, R w u x → R w' u x) : Slc R w' v L := h.keepS k (fun _ _ _ _ _ _ x => x) fun u x _ => hR u x
theorem Slc.nil_ : Slc R w (.slice none 0 0) [] := ⟨none, 0, rfl, Nat.le_refl _, by simp [maxLen], fun _ => rfl, fun h => absurd h (by simp)⟩
end
theorem Slc.of_eq {α : Type} {R : World → Value → α → Prop} {w : World} {A : Option Addr} {n c : Nat} {L : List α} (h : Slc R w (.slice A n c) L) :
    n = L.length ∧ L.length ≤ c ∧ c ≤ maxLen ∧ (A = none → c = 0) ∧ (0 < L.length → ∃ b off, A = some ⟨b, off, none⟩ ∧ ∀ i (h : i < L.length), ∃ u, w.cell? ⟨b, off + i, none⟩ = some u ∧ R w u L[i]) := by
  obtain ⟨A', c', hv, h1, h2, h3, h4⟩ := h
  simp only [Value.slice.injEq] at hv
  obtain ⟨rfl, rfl, rfl⟩ := hv
  exact ⟨rfl, h1, h2, h3, h4⟩
/-- v[:m] -/
theorem Slc.take_ {α : Type} {R : World → Value → α → Prop} {w : World} {A : Option Addr} {n c : Nat} {L : List α} (h : Slc R w (.slice A n c) L) (m : Nat) (hm : m ≤ L.length) : Slc R w (.slice A m c) (L.take m) := by
  obtain ⟨rfl, h1, h2, h3, h4⟩ := h.of_eq
  have hl : (L.take m).length = m := by simp; omega
  refine ⟨A, c, by rw [hl], by omega, h2, h3, fun hp => ?_⟩
  obtain ⟨b, off, hA, hc⟩ := h4 (by omega)
  refine ⟨b, off, hA, fun i hi => ?_⟩
  obtain ⟨u, hu, hr⟩ := hc i (by omega)
  exact ⟨u, hu, by simpa using hr⟩
/-- v[k:] -/
theorem Slc.drop_ {α : Type} {R : World → Value → α → Prop} {w : World} {A : Option Addr} {n c : Nat} {L : List α} (h : Slc R w (.slice A n c) L) (k : Nat) (hk : k ≤ L.length) :
    Slc R w (.slice (if c = k then A else A.map fun a => a.add k) (n - k) (c - k)) (L.drop k) := by
  obtain ⟨rfl, h1, h2, h3, h4⟩ := h.of_eq
  have hl : (L.drop k).length = L.length - k := by simp
  refine ⟨_, c - k, by rw [hl], by omega, by omega, ?_, fun hp => ?_⟩
  · split
    · intro e; have := h3 e; omega
    · intro e
      cases A with
      | none => have := h3 rfl; omega
      | some a => simp at e
  · obtain ⟨b, off, rfl, hc⟩ := h4 (by omega)
    rw [if_neg (by omega)]
    refine ⟨b, off + k, by simp [Addr.add], fun i hi => ?_⟩
    obtain ⟨u, hu, hr⟩ := hc (k + i) (by omega)
    exact ⟨u, by rw [Nat.add_assoc]; exact hu, by simpa using hr⟩
theorem Byts.keep {w w' : World} {v : Value} {bs : List UInt8} (h : Byts w v bs) (k : Keep w w') : Byts w' v bs := Slc.keep h k fun _ _ h => h
theorem Mat.keep {w w' : World} {v : Value} {L : List (List UInt8)} (h : Mat w v L) (k : Keep w w') : Mat w' v L := Slc.keep h k fun _ _ h => Byts.keep h k

/-- make([]T, n), T of one cell, n whatever -/
theorem run_make_row1 {P : Program} (t e : TypeId) (i : TypeInfo) (z : Value) (ht : P.underlying t = some (.slice e)) (hi : P.info? e = some i) (hz : i.zero = some z) (hs : i.size = 1) (hz1 : z.cells = #[z])
    (n : Nat) (N M : Int) (hN : N = n) (hM : M = n) (hb : i.bytes * n ≤ 281474976710656) (h63 : n ≤ 9223372036854775807) (w : World) :
    (Instr.makeSlice t (.int .i64 N) (.int .i64 M)).run P w = .ok (.slice (some ⟨w.heap.size, 0, none⟩) n n) (w.alloc (.cells (List.replicate n z).toArray e)) := by
  subst hN; subst hM
  have hb' : (i.bytes : Int) * (n : Int) ≤ 281474976710656 := by
    have h : ((i.bytes * n : Nat) : Int) ≤ 281474976710656 := by omega
    rwa [Int.natCast_mul] at h
  have hr := run_make (P := P) w t e i z ht hi hz .i64 .i64 n n (by omega) (Int.le_refl _) hb' (by omega)
  rw [hr, hz1, hs]
  have : madeCells #[z] ((n : Int).toNat * 1) = (List.replicate n z).toArray := by
    unfold madeCells
    apply Array.ext
    · simp
    · intro j h1 h2
      simp [Nat.mod_one]
  rw [this]
  simp

theorem ret_b {a b : Bool} (h : a = b) : Ending.returned (.bool a) = .returned (.bool b) := by rw [h]
theorem ret_i {k : IntKind} {a b : Int} (h : a = b) : Ending.returned (.int k a) = .returned (.int k b) := by rw [h]
theorem ret_v {a b : Value} (h : a = b) : Ending.returned a = .returned b := by rw [h]

end Go.Proofs.YtfodkjpjejoemaaGreatDoor

/-
  SHA-256 in plain Lean, and the words' operations as the model has them.
  Conditions: none (laws).
-/
namespace Go.Proofs.YtfodkjpjejoemaaGreatDoor
open Go Go.RowKit

abbrev W32 := BitVec 32
abbrev u32v (x : W32) : Value := .int .u32 (x.toNat : Int)

theorem w_or (x y : W32) : bits .or .u32 (x.toNat : Int) (y.toNat : Int) = ((x ||| y).toNat : Int) := by
  rw [u32_or_nat _ _ x.isLt y.isLt, BitVec.toNat_or]
theorem w_and (x y : W32) : bits .and .u32 (x.toNat : Int) (y.toNat : Int) = ((x &&& y).toNat : Int) := by
  rw [u32_and_nat _ _ x.isLt y.isLt, BitVec.toNat_and]
theorem w_xor (x y : W32) : bits .xor .u32 (x.toNat : Int) (y.toNat : Int) = ((x ^^^ y).toNat : Int) := by
  rw [u32_xor_nat _ _ x.isLt y.isLt, BitVec.toNat_xor]
theorem w_not (x : W32) : bits .xor .u32 (if IntKind.u32.signed = true then (-1 : Int) else IntKind.u32.max) (x.toNat : Int) = ((~~~x).toNat : Int) := by
  rw [show (if IntKind.u32.signed = true then (-1 : Int) else IntKind.u32.max) = ((BitVec.allOnes 32).toNat : Int) by decide, w_xor]
  rw [BitVec.xor_comm, BitVec.xor_allOnes]
theorem w_add (x y : W32) : IntKind.u32.wrap ((x.toNat : Int) + (y.toNat : Int)) = ((x + y).toNat : Int) := by
  rw [IntKind.wrap_u32', BitVec.toNat_add]; omega
theorem w_shl (P : Program) (x : W32) (k : IntKind) (n : Nat) (w : World) : Sem.run P (Op.shift .shl .u32 (x.toNat : Int) k (n : Int)) w = .ok (u32v (x <<< n)) w := by
  unfold Op.shift
  rw [if_neg (by omega)]
  simp only [Int.toNat_natCast]
  show Result.ok (Value.int .u32 (IntKind.u32.wrap ((x.toNat : Int) * 2 ^ (min n 32)))) w = _
  rw [IntKind.wrap_u32']
  have e : ((x.toNat : Int) * 2 ^ (min n 32)) % 4294967296 = ((x <<< n).toNat : Int) := by
    rw [BitVec.toNat_shiftLeft, Nat.shiftLeft_eq, Int.natCast_emod, Int.natCast_mul, Int.natCast_pow, Int.natCast_pow]
    by_cases h : n ≤ 32
    · rw [Nat.min_eq_left h]; rfl
    · rw [Nat.min_eq_right (by omega)]
      have : ((2 : Nat) : Int) ^ n = ((2 : Nat) : Int) ^ 32 * ((2 : Nat) : Int) ^ (n - 32) := by rw [← Int.pow_add]; congr 1; omega
      rw [this]
      generalize ((2 : Nat) : Int) ^ (n - 32) = z
      generalize (x.toNat : Int) = m
      rw [show m * (((2 : Nat) : Int) ^ 32 * z) = (m * z) * 4294967296 by rw [Int.mul_comm _ z, ← Int.mul_assoc]; rfl, show ((2 : Nat) : Int) ^ 32 = 4294967296 from rfl, Int.mul_emod_left, show (2 : Int) ^ 32 = 4294967296 from rfl, Int.mul_emod_left]
  rw [e]
theorem w_shr (P : Program) (x : W32) (k : IntKind) (n : Nat) (w : World) : Sem.run P (Op.shift .shr .u32 (x.toNat : Int) k (n : Int)) w = .ok (u32v (x >>> n)) w := by
  unfold Op.shift
  rw [if_neg (by omega)]
  simp only [Int.toNat_natCast]
  show Result.ok (Value.int .u32 ((x.toNat : Int).fdiv (2 ^ (min n 32)))) w = _
  have e : (x.toNat : Int).fdiv (2 ^ (min n 32)) = ((x >>> n).toNat : Int) := by
    rw [BitVec.toNat_ushiftRight, Nat.shiftRight_eq_div_pow]
    have hx := x.isLt
    have hp : (2 : Int) ^ (min n 32) = ((2 ^ (min n 32) : Nat) : Int) := by rw [Int.natCast_pow]; rfl
    rw [hp, Int.fdiv_eq_ediv_of_nonneg _ (Int.natCast_nonneg _), ← Int.natCast_ediv]
    by_cases h : n ≤ 32
    · rw [Nat.min_eq_left h]
    · rw [Nat.min_eq_right (by omega)]
      have : 2 ^ 32 ≤ 2 ^ n := Nat.pow_le_pow_right (by omega) (by omega)
      rw [Nat.div_eq_of_lt hx, Nat.div_eq_of_lt (by omega)]
  rw [e]
theorem w_shl' (P : Program) (x : W32) (k : IntKind) (n : Nat) (w : World) : Sem.run P (Op.shift .shl .u32 (x.toNat : Int) k (OfNat.ofNat n : Int)) w = .ok (u32v (x <<< n)) w := w_shl P x k n w
theorem w_shr' (P : Program) (x : W32) (k : IntKind) (n : Nat) (w : World) : Sem.run P (Op.shift .shr .u32 (x.toNat : Int) k (OfNat.ofNat n : Int)) w = .ok (u32v (x >>> n)) w := w_shr P x k n w

theorem w_shlF (x : W32) (n : Nat) (_ : n ≤ 32) : (x.toNat : Int) * (2 : Int) ^ n % (4294967296 : Int) = ((x <<< n).toNat : Int) := by
  rw [BitVec.toNat_shiftLeft, Nat.shiftLeft_eq, Int.natCast_emod, Int.natCast_mul, Int.natCast_pow, Int.natCast_pow]; rfl
theorem w_shrF (x : W32) (n : Nat) : (x.toNat : Int) / (2 : Int) ^ n = ((x >>> n).toNat : Int) := by
  rw [BitVec.toNat_ushiftRight, Nat.shiftRight_eq_div_pow, Int.natCast_ediv, Int.natCast_pow]; rfl
theorem w_shl8 (x : W32) : (x.toNat : Int) * (256 : Int) % (4294967296 : Int) = ((x <<< 8).toNat : Int) := w_shlF x 8 (by decide)
theorem w_shl16 (x : W32) : (x.toNat : Int) * (65536 : Int) % (4294967296 : Int) = ((x <<< 16).toNat : Int) := w_shlF x 16 (by decide)
theorem w_shl24 (x : W32) : (x.toNat : Int) * (16777216 : Int) % (4294967296 : Int) = ((x <<< 24).toNat : Int) := w_shlF x 24 (by decide)
theorem w_shr3 (x : W32) : (x.toNat : Int) / (8 : Int) = ((x >>> 3).toNat : Int) := w_shrF x 3
theorem w_shr8 (x : W32) : (x.toNat : Int) / (256 : Int) = ((x >>> 8).toNat : Int) := w_shrF x 8
theorem w_shr10 (x : W32) : (x.toNat : Int) / (1024 : Int) = ((x >>> 10).toNat : Int) := w_shrF x 10
theorem w_shr16 (x : W32) : (x.toNat : Int) / (65536 : Int) = ((x >>> 16).toNat : Int) := w_shrF x 16
theorem w_shr24 (x : W32) : (x.toNat : Int) / (16777216 : Int) = ((x >>> 24).toNat : Int) := w_shrF x 24
theorem w_addF (x y : W32) : ((x.toNat : Int) + (y.toNat : Int)) % (4294967296 : Int) = ((x + y).toNat : Int) := by
  rw [BitVec.toNat_add]; omega

theorem w_add5F (a b c d e : W32) : (((a.toNat : Int) + (b.toNat : Int) + (c.toNat : Int) + (d.toNat : Int)) % (4294967296 : Int) + (e.toNat : Int)) % (4294967296 : Int) = ((a + b + c + d + e).toNat : Int) := by
  simp only [BitVec.toNat_add]; omega

/-- x turned right by n -/
def rotr (x : W32) (n : Nat) : W32 := x >>> n ||| x <<< (32 - n)

theorem turn_bits (n : Nat) (h0 : 0 < n) (h : n < 32) : bits .and .u64 (IntKind.u64.wrap (-(n : Int))) 31 = ((32 - n : Nat) : Int) := by
  have e : IntKind.u64.wrap (-(n : Int)) = ((18446744073709551616 - n : Nat) : Int) := by
    simp [IntKind.wrap, IntKind.bits, IntKind.signed]; omega
  rw [e, show (31 : Int) = ((31 : Nat) : Int) from rfl, u64_and_nat _ _ (by omega) (by omega), nat_mask5]
  omega

/-- the table of the rounds -/
def shaK : List W32 := [0x428a2f98, 0x71374491, 0xb5c0fbcf, 0xe9b5dba5, 0x3956c25b, 0x59f111f1, 0x923f82a4, 0xab1c5ed5, 0xd807aa98, 0x12835b01, 0x243185be, 0x550c7dc3, 0x72be5d74, 0x80deb1fe, 0x9bdc06a7, 0xc19bf174, 0xe49b69c1, 0xefbe4786, 0x0fc19dc6, 0x240ca1cc, 0x2de92c6f, 0x4a7484aa, 0x5cb0a9dc, 0x76f988da, 0x983e5152, 0xa831c66d, 0xb00327c8, 0xbf597fc7, 0xc6e00bf3, 0xd5a79147, 0x06ca6351, 0x14292967, 0x27b70a85, 0x2e1b2138, 0x4d2c6dfc, 0x53380d13, 0x650a7354, 0x766a0abb, 0x81c2c92e, 0x92722c85, 0xa2bfe8a1, 0xa81a664b, 0xc24b8b70, 0xc76c51a3, 0xd192e819, 0xd6990624, 0xf40e3585, 0x106aa070, 0x19a4c116, 0x1e376c08, 0x2748774c, 0x34b0bcb5, 0x391c0cb3, 0x4ed8aa4a, 0x5b9cca4f, 0x682e6ff3, 0x748f82ee, 0x78a5636f, 0x84c87814, 0x8cc70208, 0x90befffa, 0xa4506ceb, 0xbef9a3f7, 0xc67178f2]
theorem shaK_length : shaK.length = 64 := by decide
/-- the eight words of the state -/
structure St where
  a : W32
  b : W32
  c : W32
  d : W32
  e : W32
  f : W32
  g : W32
  h : W32
def shaIV : St := ⟨0x6a09e667, 0xbb67ae85, 0x3c6ef372, 0xa54ff53a, 0x510e527f, 0x9b05688c, 0x1f83d9ab, 0x5be0cd19⟩
def St.list (s : St) : List W32 := [s.a, s.b, s.c, s.d, s.e, s.f, s.g, s.h]
def bigS0 (x : W32) : W32 := rotr x 2 ^^^ rotr x 13 ^^^ rotr x 22
def bigS1 (x : W32) : W32 := rotr x 6 ^^^ rotr x 11 ^^^ rotr x 25
def smlS0 (x : W32) : W32 := rotr x 7 ^^^ rotr x 18 ^^^ x >>> 3
def smlS1 (x : W32) : W32 := rotr x 17 ^^^ rotr x 19 ^^^ x >>> 10
def shaCh (x y z : W32) : W32 := (x &&& y) ^^^ (~~~x &&& z)
def shaMaj (x y z : W32) : W32 := (x &&& y) ^^^ (x &&& z) ^^^ (y &&& z)
def shaT1 (k w : W32) (s : St) : W32 := s.h + bigS1 s.e + shaCh s.e s.f s.g + k + w
def shaT2 (s : St) : W32 := bigS0 s.a + shaMaj s.a s.b s.c
/-- one round -/
def shaRnd (k w : W32) (s : St) : St := ⟨shaT1 k w s + shaT2 s, s.a, s.b, s.c, s.d + shaT1 k w s, s.e, s.f, s.g⟩
/-- a byte as a word -/
def byteW (x : UInt8) : W32 := BitVec.ofNat 32 x.toNat
/-- word i of a block of bytes -/
def shaWord (p : List UInt8) (i : Nat) : W32 :=
  byteW (p.getD (4 * i) 0) <<< 24 ||| byteW (p.getD (4 * i + 1) 0) <<< 16 ||| byteW (p.getD (4 * i + 2) 0) <<< 8 ||| byteW (p.getD (4 * i + 3) 0)
/-- the schedule's next word -/
def shaNext (p : List UInt8) (l : List W32) (i : Nat) : W32 :=
  if i < 16 then shaWord p i else l.getD (i - 16) 0 + smlS0 (l.getD (i - 15) 0) + l.getD (i - 7) 0 + smlS1 (l.getD (i - 2) 0)
/-- the first i words of the schedule -/
def shaW (p : List UInt8) : Nat → List W32
  | 0 => []
  | i + 1 => shaW p i ++ [shaNext p (shaW p i) i]
theorem shaW_length (p : List UInt8) (i : Nat) : (shaW p i).length = i := by
  induction i with
  | zero => rfl
  | succ i ih => simp [shaW, ih]
theorem shaW_take (p : List UInt8) (i j : Nat) (h : i ≤ j) : (shaW p j).take i = shaW p i := by
  induction j with
  | zero => obtain rfl : i = 0 := by omega
            rfl
  | succ j ih =>
    by_cases hi : i = j + 1
    · subst hi; rw [List.take_of_length_le (by rw [shaW_length]; omega)]
    · rw [shaW, List.take_append_of_le_length (by rw [shaW_length]; omega), ih (by omega)]
theorem shaW_getD (p : List UInt8) (i j : Nat) (h : i < j) : (shaW p j).getD i 0 = shaNext p (shaW p i) i := by
  have e := shaW_take p (i + 1) j h
  have : (shaW p j).getD i 0 = ((shaW p j).take (i + 1)).getD i 0 := by
    simp [List.getD, List.getElem?_take_of_lt]
  rw [this, e, shaW, List.getD, List.getElem?_append_right (by rw [shaW_length]; omega), shaW_length]
  simp
/-- the first n rounds over a block -/
def shaRs (p : List UInt8) (s : St) : Nat → St
  | 0 => s
  | n + 1 => shaRnd (shaK.getD n 0) ((shaW p (n + 1)).getD n 0) (shaRs p s n)
def St.add (s t : St) : St := ⟨s.a + t.a, s.b + t.b, s.c + t.c, s.d + t.d, s.e + t.e, s.f + t.f, s.g + t.g, s.h + t.h⟩
/-- one block of 64 bytes -/
def shaBlock (p : List UInt8) (s : St) : St := s.add (shaRs p s 64)
/-- block n of bytes -/
def shaChunk (bs : List UInt8) (n : Nat) : List UInt8 := (bs.drop (64 * n)).take 64
/-- the state behind n blocks -/
def shaRun (s : St) (bs : List UInt8) : Nat → St
  | 0 => s
  | n + 1 => shaBlock (shaChunk bs n) (shaRun s bs n)
theorem shaChunk_drop (bs : List UInt8) (m n : Nat) : shaChunk (bs.drop (64 * m)) n = shaChunk bs (m + n) := by
  unfold shaChunk; rw [List.drop_drop]; congr 2; omega
theorem shaRun_drop (s : St) (bs : List UInt8) (m n : Nat) : shaRun s bs (m + n) = shaRun (shaRun s bs m) (bs.drop (64 * m)) n := by
  induction n with
  | zero => rfl
  | succ n ih => rw [← Nat.add_assoc, shaRun, ih, shaRun, shaChunk_drop]
theorem shaChunk_append (bs x : List UInt8) (n : Nat) (h : 64 * (n + 1) ≤ bs.length) : shaChunk (bs ++ x) n = shaChunk bs n := by
  unfold shaChunk
  rw [List.drop_append_of_le_length (by omega), List.take_append_of_le_length (by simp; omega)]
theorem shaRun_append (s : St) (bs x : List UInt8) (n : Nat) (h : 64 * n ≤ bs.length) : shaRun s (bs ++ x) n = shaRun s bs n := by
  induction n with
  | zero => rfl
  | succ n ih => rw [shaRun, shaRun, ih (by omega), shaChunk_append _ _ _ h]
/-- a number of 64 bits, the highest byte first -/
def be64 (x : Nat) : List UInt8 := (List.range 8).map fun i => UInt8.ofNat (x / 2 ^ (56 - 8 * i))
def shaZeros (n : Nat) : Nat := (119 - n % 64) % 64
def shaPadding (n : Nat) : List UInt8 := (128 :: List.replicate (shaZeros n) 0) ++ be64 (8 * n)
def shaPad (bs : List UInt8) : List UInt8 := bs ++ shaPadding bs.length
def be32 (x : W32) : List UInt8 := [UInt8.ofNat (x >>> 24).toNat, UInt8.ofNat (x >>> 16).toNat, UInt8.ofNat (x >>> 8).toNat, UInt8.ofNat x.toNat]
def St.bytes (s : St) : List UInt8 := s.list.flatMap be32
/-- the sum of bytes -/
def sha (bs : List UInt8) : List UInt8 := (shaRun shaIV (shaPad bs) ((shaPad bs).length / 64)).bytes
theorem St.bytes_length (s : St) : s.bytes.length = 32 := by simp [St.bytes, St.list, be32]
theorem sha_length (bs : List UInt8) : (sha bs).length = 32 := St.bytes_length _
theorem shaPadding_length (n : Nat) : (n + (shaPadding n).length) % 64 = 0 := by
  simp [shaPadding, be64, shaZeros]; omega

theorem shaZeros_le (n : Nat) : shaZeros n ≤ 63 := by unfold shaZeros; omega
theorem shaZeros_mod (n : Nat) : ∀ k, k ≤ shaZeros n → ((n + 1 + k) % 64 = 56 ↔ k = shaZeros n) := by intro k hk; unfold shaZeros at *; omega
theorem be64_take (x i : Nat) (h : i < 8) : (be64 x).take (i + 1) = (be64 x).take i ++ [UInt8.ofNat (x / 2 ^ (56 - 8 * i))] := by
  unfold be64
  rw [← List.map_take, ← List.map_take, List.take_range, List.take_range, Nat.min_eq_left (by omega), Nat.min_eq_left (by omega), List.range_succ, List.map_append]; rfl
theorem be64_all (x : Nat) : (be64 x).take 8 = be64 x := List.take_of_length_le (by simp [be64])
/-- a word of a block, gathered byte by byte -/
def shaPart (p : List UInt8) (i : Nat) : Nat → W32
  | 0 => 0
  | c + 1 => shaPart p i c <<< 8 ||| byteW (p.getD (4 * i + c) 0)
theorem shaPart_four (p : List UInt8) (i : Nat) : shaPart p i 4 = shaWord p i := by
  simp only [shaPart, shaWord, BitVec.shiftLeft_or_distrib, ← BitVec.shiftLeft_add, Nat.add_zero, Nat.reduceAdd]
  rw [show (0 : W32) <<< 32 = 0 by decide, show ∀ x : W32, 0 ||| x = x from fun x => BitVec.zero_or]
theorem shaChunk_getD (bs : List UInt8) (n j : Nat) (h : j < 64) : (shaChunk bs n).getD j 0 = bs.getD (64 * n + j) 0 := by
  unfold shaChunk
  simp [List.getD, List.getElem?_take_of_lt h, List.getElem?_drop]
/-- the schedule as far as it is reckoned -/
def shaWz (p : List UInt8) (q : Nat) : List W32 := shaW p q ++ List.replicate (64 - q) 0
theorem shaWz_length (p : List UInt8) (q : Nat) (h : q ≤ 64) : (shaWz p q).length = 64 := by
  simp [shaWz, shaW_length]; omega
theorem shaWz_set (p : List UInt8) (q : Nat) (h : q < 64) (x : W32) (hx : x = shaNext p (shaW p q) q) : (shaWz p q).set q x = shaWz p (q + 1) := by
  subst hx
  unfold shaWz
  rw [List.set_append_right _ _ (by rw [shaW_length]; omega), shaW_length, Nat.sub_self, show 64 - q = (64 - (q + 1)) + 1 by omega, List.replicate_succ, List.set_cons_zero, shaW, List.append_assoc]; rfl
theorem shaWz_getD (p : List UInt8) (q j : Nat) (h : j < q) : (shaWz p q).getD j 0 = (shaW p q).getD j 0 := by
  unfold shaWz
  simp [List.getD, List.getElem?_append_left (show j < (shaW p q).length by rw [shaW_length]; exact h)]
theorem getD_set_same {L : List W32} {j : Nat} (x : W32) (h : j < L.length) : (L.set j x).getD j 0 = x := by
  simp [List.getD, h]
theorem set_set' {L : List W32} (j : Nat) (x y : W32) : (L.set j x).set j y = L.set j y := by simp
/-- one list as far as t, another one from there -/
def mixL (A B : List W32) (t : Nat) : List W32 := A.take t ++ B.drop t
theorem mixL_length (A B : List W32) (t : Nat) (ha : A.length = 8) (hb : B.length = 8) (h : t ≤ 8) : (mixL A B t).length = 8 := by
  simp [mixL, ha, hb]; omega
theorem mixL_getD (A B : List W32) (t : Nat) (ha : A.length = 8) (h : t < 8) : (mixL A B t).getD t 0 = B.getD t 0 := by
  unfold mixL
  simp [List.getD, List.getElem?_append_right, ha, List.getElem?_drop, show min t 8 = t by omega]
theorem mixL_set (A B : List W32) (t : Nat) (ha : A.length = 8) (hb : B.length = 8) (h : t < 8) : (mixL A B t).set t (A.getD t 0) = mixL A B (t + 1) := by
  unfold mixL
  have e1 : (A.take t).length = t := by simp [ha]; omega
  rw [List.set_append_right _ _ (by omega), e1, Nat.sub_self, List.drop_eq_getElem_cons (show t < B.length by omega), List.set_cons_zero, List.take_add_one, List.append_assoc]
  simp [List.getD, show t < A.length by omega]
theorem St.add_getD (s r : St) (t : Nat) (h : t < 8) : (s.add r).list.getD t 0 = s.list.getD t 0 + r.list.getD t 0 := by
  obtain rfl | rfl | rfl | rfl | rfl | rfl | rfl | rfl : t = 0 ∨ t = 1 ∨ t = 2 ∨ t = 3 ∨ t = 4 ∨ t = 5 ∨ t = 6 ∨ t = 7 := by omega
  all_goals rfl
theorem St.list_length (s : St) : s.list.length = 8 := rfl
theorem shaRnd_list (k w : W32) (s : St) : (shaRnd k w s).list = [shaT1 k w s + bigS0 s.a + shaMaj s.a s.b s.c, s.a, s.b, s.c, s.d + shaT1 k w s, s.e, s.f, s.g] := by
  simp [shaRnd, St.list, shaT2, BitVec.add_assoc]
/-- a slice's length -/
def lenV : Value → Nat
  | .slice _ n _ => n
  | _ => 0

abbrev u8v (x : UInt8) : Value := .int .u8 (x.toNat : Int)

/-- block g holds the words L, whole -/
def Arr (w : World) (g : Nat) (t : TypeId) (L : List W32) : Prop := w.heap[g]? = some (.cells (L.map u32v).toArray t (0, 0))
section
variable {w w' : World} {g : Nat} {t : TypeId} {L : List W32}
theorem Arr.cell (h : Arr w g t L) (k : Nat) (hk : k < L.length) : w.cell? ⟨g, k, none⟩ = some (u32v (L.getD k 0)) := by
  rw [cell_of_row w g k _ t (0, 0) h]
  simp [List.getD, hk]
theorem Arr.frozen (h : Arr w g t L) (k : Nat) : w.frozen? ⟨g, k, none⟩ = false := frozen_of_row _ _ _ _ _ h
theorem Arr.lt (h : Arr w g t L) : g < w.heap.size := lt_of_block h
theorem Arr.kp {S : Nat → Prop} (h : Arr w g t L) (k : Kp S w w') (hS : ¬ S g) : Arr w' g t L := (k.block g h.lt hS).trans h
theorem Arr.set (h : Arr w g t L) (k : Nat) (x : W32) : Arr (w.setCell ⟨g, k, none⟩ (u32v x)) g t (L.set k x) := by
  unfold Arr
  rw [heap_setCell_same _ _ _ _ _ _ h]
  simp [List.map_set]
end

end Go.Proofs.YtfodkjpjejoemaaGreatDoor

/-
  append onto a slice that the call itself made, its elements one cell each, the source nil or not; what is owned reads as a list.
  Conditions: none (laws).
-/
namespace Go.Proofs.YtfodkjpjejoemaaGreatDoor
open Go Go.RowKit

/-- the slice value v owns the cells xs, in a block from 'base' on -/
abbrev Own (w : World) (base : Nat) (e : TypeId) (v : Value) (xs : List Value) : Prop := w.ownsRow base e 1 v xs.length xs

/-- t: slices of e, one cell of so many bytes -/
def AppOk (P : Program) (t e : TypeId) (bytes : Nat) : Prop :=
  P.underlying t = some (.slice e) ∧ 0 < bytes ∧ ∃ i z, P.info? e = some i ∧ i.zero = some z ∧ i.size = 1 ∧ i.bytes = bytes ∧ z.cells.size = 1

/-- what is appended: m cells, from an address on (none: nothing) -/
def Src (w : World) (A : Option Addr) (m : Nat) (news : List Value) : Prop :=
  news.length = m ∧ (0 < m → ∃ ad, A = some ad ∧ ∀ j u, news[j]? = some u → w.cell? (ad.add j) = some u)

section
variable {P : Program} {w w' : World} {base : Nat} {e : TypeId} {v : Value} {xs : List Value}

theorem Own.nil_ (w : World) (base : Nat) (e : TypeId) : Own w base e (.slice none 0 0) [] := ⟨by simp, .inl ⟨rfl, rfl⟩⟩
/-- []T{}: a new block without cells -/
theorem Own.bare (w : World) (base : Nat) (e : TypeId) (hb : base ≤ w.heap.size) : Own (w.alloc (.cells #[] e)) base e (.slice (some ⟨w.heap.size, 0, none⟩) 0 0) [] :=
  ⟨by simp, .inr ⟨w.heap.size, 0, #[], rfl, hb, heap_alloc_new _ _, Nat.le_refl _, by simp [maxLen], by simp, by simp⟩⟩
/-- what a new block holds is owned -/
theorem Own.made (w : World) (base : Nat) (e : TypeId) (xs : List Value) (hb : base ≤ w.heap.size) (hx : xs.length ≤ maxLen) : Own (w.alloc (.cells xs.toArray e)) base e (.slice (some ⟨w.heap.size, 0, none⟩) xs.length xs.length) xs :=
  ⟨by simp, .inr ⟨w.heap.size, xs.length, xs.toArray, rfl, hb, heap_alloc_new _ _, Nat.le_refl _, hx, by simp, by simp⟩⟩
theorem Own.alloc (h : Own w base e v xs) (o : Obj) : Own (w.alloc o) base e v xs := World.ownsRow.alloc h o
theorem Own.drew (h : Own w base e v xs) : Own w.drew base e v xs := h
theorem Own.drewN (h : Own w base e v xs) (n : Nat) : Own (w.drewN n) base e v xs := h
theorem Own.kp {S : Nat → Prop} (h : Own w base e v xs) (k : Kp S w w') (hS : ∀ b, v.ownBlock = some b → ¬ S b) : Own w' base e v xs := by
  refine ⟨h.1, ?_⟩
  rcases h.2 with h2 | ⟨g, cap, cur, rfl, hb, hh, h3, h4, h5, h6⟩
  · exact .inl h2
  · exact .inr ⟨g, cap, cur, rfl, hb, (k.block g (lt_of_block hh) (hS g rfl)).trans hh, h3, h4, h5, h6⟩
theorem Own.keep (h : Own w base e v xs) (k : Keep w w') : Own w' base e v xs := h.kp k fun _ _ x => x
theorem Own.lt (h : Own w base e v xs) : ∀ b, v.ownBlock = some b → base ≤ b ∧ b < w.heap.size := World.ownsRow.lt h
theorem Own.form (h : Own w base e v xs) : ∃ A c, v = .slice A xs.length c ∧ xs.length ≤ c ∧ c ≤ maxLen ∧ (A = none → c = 0) ∧ (0 < xs.length → ∃ g, A = some ⟨g, 0, none⟩ ∧ base ≤ g ∧ ∀ i (hi : i < xs.length), w.cell? ⟨g, 0 + i, none⟩ = some xs[i]) := by
  rcases h.2 with ⟨rfl, h0⟩ | ⟨g, cap, cur, rfl, hb, hh, h3, h4, h5, h6⟩
  · refine ⟨none, 0, by rw [h0], by omega, by simp [maxLen], fun _ => rfl, fun hp => by omega⟩
  · refine ⟨_, cap, rfl, h3, h4, (fun e => by cases e), fun _ => ⟨g, rfl, hb, fun i hi => ?_⟩⟩
    rw [cell_of_row w g (0 + i) cur e (0, 0) hh, Nat.zero_add]
    have : cur.toList[i]? = some xs[i] := by
      have h7 : (cur.toList.take (xs.length * 1))[i]? = xs[i]? := by rw [h6]
      rw [List.getElem?_take_of_lt (by omega)] at h7
      rw [h7, List.getElem?_eq_getElem hi]
    simpa using this
/-- a store into what is owned -/
theorem Own.set_ {g n c : Nat} (h : Own w base e (.slice (some ⟨g, 0, none⟩) n c) xs) (j : Nat) (u : Value) : Own (w.setCell ⟨g, j, none⟩ u) base e (.slice (some ⟨g, 0, none⟩) n c) (xs.set j u) := by
  have hn : n = xs.length := by
    rcases h.2 with ⟨h0, _⟩ | ⟨g', cap, cur, hv, _⟩
    · cases h0
    · simp only [Value.slice.injEq] at hv; exact hv.2.1
  subst hn
  simpa [Own] using (World.ownsRow.stored h j u).1
/-- what is owned reads as a list -/
theorem Own.slc {α : Type} {R : World → Value → α → Prop} {L : List α} (h : Own w base e v xs) (hl : xs.length = L.length) (hR : ∀ i (hi : i < xs.length) (hi' : i < L.length), R w xs[i] L[i]) : Slc R w v L := by
  obtain ⟨A, c, rfl, h1, h2, h3, h4⟩ := h.form
  refine ⟨A, c, by rw [hl], by omega, h2, h3, fun hp => ?_⟩
  obtain ⟨g, rfl, _, hc⟩ := h4 (by omega)
  exact ⟨g, 0, rfl, fun i hi => ⟨xs[i], hc i (by omega), hR i (by omega) hi⟩⟩
theorem Own.slc_map {α : Type} {R : World → Value → α → Prop} {L : List α} (f : α → Value) (h : Own w base e v (L.map f)) (hR : ∀ x ∈ L, R w (f x) x) : Slc R w v L :=
  Own.slc h (by simp) fun i hi hi' => by simpa using hR _ (List.getElem_mem hi')

theorem Src.nil_ : Src w none 0 [] := ⟨rfl, fun h => absurd h (by omega)⟩
theorem Src.one {b : Nat} {u : Value} (h : w.cell? ⟨b, 0, none⟩ = some u) : Src w (some ⟨b, 0, none⟩) 1 [u] :=
  ⟨rfl, fun _ => ⟨_, rfl, fun j x hj => by
    match j, hj with
    | 0, hj => simp at hj; subst hj; simpa [Addr.add] using h⟩⟩
/-- a slice that reads as a list is a source -/
theorem Src.of_slc {α : Type} {R : World → Value → α → Prop} {L : List α} (f : α → Value) (hR : ∀ u x, R w u x → u = f x) {A : Option Addr} {n c : Nat} (h : Slc R w (.slice A n c) L) : Src w A n (L.map f) := by
  obtain ⟨A', c', hv, h1, h2, h3, h4⟩ := h
  simp only [Value.slice.injEq] at hv
  obtain ⟨rfl, rfl, rfl⟩ := hv
  refine ⟨by simp, fun hp => ?_⟩
  obtain ⟨b, off, rfl, hc⟩ := h4 hp
  refine ⟨_, rfl, fun j u hj => ?_⟩
  have hjl : j < L.length := by
    rcases Nat.lt_or_ge j L.length with h | h
    · exact h
    · rw [List.getElem?_eq_none (by simpa using h)] at hj; cases hj
  obtain ⟨u', hu', hr⟩ := hc j hjl
  have e1 : u = f L[j] := by simpa [List.getElem?_eq_getElem hjl] using hj.symm
  have e2 := hR _ _ hr
  rw [e1, ← e2]
  have : (⟨b, off, none⟩ : Addr).add j = ⟨b, off + j, none⟩ := by unfold Addr.add; split <;> simp_all
  rw [this]; exact hu'

theorem run_app_nil (t ty : TypeId) {bytes : Nat} (hT : AppOk P t e bytes) (hown : Own w base e v xs) (c : Nat) : (Builtin.append_ #[t, t] ty #[v, .slice none 0 c]).run P w = .ok v w := by
  obtain ⟨ht, _, i, z, hi, hz, hs, hby, hzs⟩ := hT
  rcases hown.2 with ⟨rfl, h0⟩ | ⟨g, cap, cur, rfl, _, _, hnc, _⟩
  · simp [Builtin.append_, run_underlying ht, sizeOf, typeInfo, hi, Builtin.lenOf, Builtin.firstCells]
  · simp [Builtin.append_, run_underlying ht, sizeOf, typeInfo, hi, Builtin.lenOf, Builtin.firstCells, hnc, storeCells]

theorem run_app (t ty : TypeId) {bytes : Nat} (hT : AppOk P t e bytes) (hown : Own w base e v xs) {A : Option Addr} {m : Nat} (c : Nat) {news : List Value} (hsrc : Src w A m news) (h1 : ∀ u ∈ news, u.oneCell' = true)
    (hA : A = none → m = 0) (hb : (xs.length + m) * bytes ≤ 140737488355328) (hbase : base ≤ w.heap.size) :
    ∃ v' w', (Builtin.append_ #[t, t] ty #[v, .slice A m c]).run P w = .ok v' w' ∧ Own w' base e v' (xs ++ news) ∧ Kp (fun k => some k = v.ownBlock) w w' ∧ (v'.ownBlock = v.ownBlock ∨ v'.ownBlock = some w.heap.size) := by
  obtain ⟨hl, hc⟩ := hsrc
  have hT' := hT
  obtain ⟨ht, hb0, i, z, hi, hz, hs, hby, hzs⟩ := hT
  have h63 : xs.length + m ≤ maxLen := by
    have : (xs.length + m) * 1 ≤ (xs.length + m) * bytes := Nat.mul_le_mul_left _ hb0
    unfold maxLen; omega
  rcases A with _ | ad
  · obtain rfl : m = 0 := hA rfl
    obtain rfl : news = [] := List.eq_nil_of_length_eq_zero hl
    exact ⟨v, w, run_app_nil t ty hT' hown c, by simpa using hown, Kp.refl _ _, .inl rfl⟩
  · have hcells : ∀ j u, news[j]? = some u → w.cell? (ad.add j) = some u := by
      intro j u hu
      rcases Nat.eq_zero_or_pos m with h0 | h0
      · obtain rfl : news = [] := List.eq_nil_of_length_eq_zero (by omega)
        simp at hu
      · obtain ⟨ad', h, hcc⟩ := hc h0
        injection h with h
        subst h
        exact hcc j u hu
    obtain ⟨v', w', hrun, h2, h3, _, h5⟩ := run_append_own_at (P := P) w base t ty e i z 1 bytes ht hi hz hs hby hzs (by omega) v xs.length xs hown ad m c news (by omega) hcells h1 h63 hb hbase
    exact ⟨v', w', hrun, by simpa [Own, hl] using h2, Kp.of_grown h3, h5⟩

theorem wp_app {o : Oper} {a : Act} {K : Act → World → Prop} {Q : Exit → Act → World → Prop} (s x : Operand) (t : TypeId)
    (ho : o.op = .call { callee := .builtin .append, args := #[s, x], argTypes := #[t, t] }) {bytes : Nat} (hT : AppOk P t e bytes) (hs : a.eval s = v) (hown : Own w base e v xs)
    {A : Option Addr} {m c : Nat} (hx : a.eval x = .slice A m c) {news : List Value} (hsrc : Src w A m news) (h1 : ∀ u ∈ news, u.oneCell' = true) (hA : A = none → m = 0)
    (hb : (xs.length + m) * bytes ≤ 140737488355328) (hbase : base ≤ w.heap.size)
    (h : ∀ v' w', Own w' base e v' (xs ++ news) → Kp (fun k => some k = v.ownBlock) w w' → (v'.ownBlock = v.ownBlock ∨ v'.ownBlock = some w.heap.size) → K (a.put o.dst v') w') : o.wp P a w K Q := by
  obtain ⟨v', w', hrun, h2, h3, h4⟩ := run_app t o.type hT hown c hsrc h1 hA hb hbase
  unfold Oper.wp execOp
  simp only [ho, resolve, invoke, builtin, Sem.run_bind, Sem.run_pure, Result.andThen_ok, List.map_toArray, List.map_cons, List.map_nil, hs, hx, hrun]
  exact h v' w' h2 h3 h4

theorem wpList_app {ops : Array Oper} {rest : List Oper} {o : Oper} {a : Act} {Q : Exit → Act → World → Prop} (hgd : o.guard = none) (s x : Operand) (t : TypeId)
    (ho : o.op = .call { callee := .builtin .append, args := #[s, x], argTypes := #[t, t] }) {bytes : Nat} (hT : AppOk P t e bytes) (hs : a.eval s = v) (hown : Own w base e v xs)
    {A : Option Addr} {m c : Nat} (hx : a.eval x = .slice A m c) {news : List Value} (hsrc : Src w A m news) (h1 : ∀ u ∈ news, u.oneCell' = true) (hA : A = none → m = 0)
    (hb : (xs.length + m) * bytes ≤ 140737488355328) (hbase : base ≤ w.heap.size)
    (h : ∀ v' w', Own w' base e v' (xs ++ news) → Kp (fun k => some k = v.ownBlock) w w' → (v'.ownBlock = v.ownBlock ∨ v'.ownBlock = some w.heap.size) → wpList P ops Q rest (a.put o.dst v') w') : wpList P ops Q (o :: rest) a w :=
  wpList_plain hgd fun _ hK => wp_app s x t ho hT hs hown hx hsrc h1 hA hb hbase fun v' w' h2 h3 h4 => hK _ _ (h v' w' h2 h3 h4)

/-- the same at a step of a region that draws its order -/
theorem step_app {ops : Array Oper} {o : Oper} {a : Act} {K : Act → World → Prop} {Q : Exit → Act → World → Prop} {E : Prop} (hgd : o.guard = none) (s x : Operand) (t : TypeId)
    (ho : o.op = .call { callee := .builtin .append, args := #[s, x], argTypes := #[t, t] }) {bytes : Nat} (hT : AppOk P t e bytes) (hs : a.eval s = v) (hown : Own w base e v xs)
    {A : Option Addr} {m c : Nat} (hx : a.eval x = .slice A m c) {news : List Value} (hsrc : Src w A m news) (h1 : ∀ u ∈ news, u.oneCell' = true) (hA : A = none → m = 0)
    (hb : (xs.length + m) * bytes ≤ 140737488355328) (hbase : base ≤ w.heap.size)
    (h : ∀ v' w', Own w' base e v' (xs ++ news) → Kp (fun k => some k = v.ownBlock) w w' → (v'.ownBlock = v.ownBlock ∨ v'.ownBlock = some w.heap.size) → K (a.put o.dst v') w') :
    if Region.wanted o (yielded ops a.tmps) = true then Oper.wp P o a w K Q else E := by
  have hw : Region.wanted o (yielded ops a.tmps) = true := by simp [Region.wanted, hgd]
  rw [if_pos hw]
  exact wp_app s x t ho hT hs hown hx hsrc h1 hA hb hbase h

/-- m cells of a list laid over another one from an offset on -/
def spl (cur : List Value) (off : Nat) (news : List Value) (m : Nat) : List Value := cur.take off ++ (news.take m ++ cur.drop (off + m))
/-- copy(d, s): d lies in block g, known whole -/
theorem run_cpy (dT sT ty : TypeId) (hu : P.underlying dT = some (.slice e)) (hsz : (P.info? e).map (·.size) = some 1) {g off dLen sLen : Nat} (dCap sCap : Nat) {D A : Option Addr} {cur news : List Value} {t : TypeId}
    (hg : w.heap[g]? = some (.cells cur.toArray t (0, 0))) (hsrc : Src w A sLen news) (h1 : ∀ u ∈ news, u.oneCell' = true) (hD : 0 < dLen → D = some ⟨g, off, none⟩) (hfit : off + dLen ≤ cur.length) :
    ∃ w', (Builtin.copy_ #[dT, sT] ty #[.slice D dLen dCap, .slice A sLen sCap]).run P w = .ok (goInt (min sLen dLen : Nat)) w' ∧
      w'.heap[g]? = some (.cells (spl cur off news (min sLen dLen)).toArray t (0, 0)) ∧ Kp (fun k => k = g) w w' := by
  obtain ⟨hl, hc⟩ := hsrc
  rcases Nat.eq_zero_or_pos (min sLen dLen) with h0 | h0
  · refine ⟨w, by rw [h0]; exact run_copy_none (P := P) w dT sT ty e D A dLen dCap sLen sCap hu hsz h0, ?_, Kp.refl _ _⟩
    rw [h0]; simpa [spl] using hg
  · obtain rfl := hD (by omega)
    obtain ⟨ad, rfl, hcell⟩ := hc (by omega)
    have hlen : (news.take (min sLen dLen)).length = min sLen dLen := by simp; omega
    have hr := run_copy_row (P := P) w dT sT ty e g off dLen dCap ad sLen sCap cur.toArray t (news.take (min sLen dLen)) hu hsz hg hlen
      (fun j v hj => hcell j v (by rw [List.getElem?_take] at hj; split at hj <;> simp_all)) (by rw [hlen]; simp; omega) (fun v hv => h1 v (List.mem_of_mem_take hv))
    rw [hlen] at hr
    refine ⟨_, hr, ?_, ⟨rfl, rfl, rfl, by simp, fun i hi hne => setRow_other w g i _ hne⟩⟩
    rw [setRow_heap w g _ _ t _ hg]
    simp [spl]

theorem wp_cpy {o : Oper} {a : Act} {K : Act → World → Prop} {Q : Exit → Act → World → Prop} (d s : Operand) (dT sT : TypeId)
    (ho : o.op = .call { callee := .builtin .copy, args := #[d, s], argTypes := #[dT, sT] }) (hu : P.underlying dT = some (.slice e)) (hsz : (P.info? e).map (·.size) = some 1) {g off dLen sLen dCap sCap : Nat} {D A : Option Addr}
    (hd : a.eval d = .slice D dLen dCap) (hs : a.eval s = .slice A sLen sCap) {cur news : List Value} {t : TypeId}
    (hg : w.heap[g]? = some (.cells cur.toArray t (0, 0))) (hsrc : Src w A sLen news) (h1 : ∀ u ∈ news, u.oneCell' = true) (hD : 0 < dLen → D = some ⟨g, off, none⟩) (hfit : off + dLen ≤ cur.length)
    (h : ∀ w', Hid (w'.heap[g]? = some (.cells (spl cur off news (min sLen dLen)).toArray t (0, 0))) → Hid (Kp (fun k => k = g) w w') → K (a.put o.dst (.int .i64 (min sLen dLen : Nat))) w') : o.wp P a w K Q := by
  obtain ⟨w', hrun, h2, h3⟩ := run_cpy dT sT o.type hu hsz dCap sCap hg hsrc h1 hD hfit
  unfold Oper.wp execOp
  simp only [ho, resolve, invoke, builtin, Sem.run_bind, Sem.run_pure, Result.andThen_ok, List.map_toArray, List.map_cons, List.map_nil, hs, hd, hrun]
  exact h w' h2 h3

theorem wpList_cpy {ops : Array Oper} {rest : List Oper} {o : Oper} {a : Act} {Q : Exit → Act → World → Prop} (hgd : o.guard = none) (d s : Operand) (dT sT : TypeId)
    (ho : o.op = .call { callee := .builtin .copy, args := #[d, s], argTypes := #[dT, sT] }) (hu : P.underlying dT = some (.slice e)) (hsz : (P.info? e).map (·.size) = some 1) {g off dLen sLen dCap sCap : Nat} {D A : Option Addr}
    (hd : a.eval d = .slice D dLen dCap) (hs : a.eval s = .slice A sLen sCap) {cur news : List Value} {t : TypeId}
    (hg : w.heap[g]? = some (.cells cur.toArray t (0, 0))) (hsrc : Src w A sLen news) (h1 : ∀ u ∈ news, u.oneCell' = true) (hD : 0 < dLen → D = some ⟨g, off, none⟩) (hfit : off + dLen ≤ cur.length)
    (h : ∀ w', Hid (w'.heap[g]? = some (.cells (spl cur off news (min sLen dLen)).toArray t (0, 0))) → Hid (Kp (fun k => k = g) w w') → wpList P ops Q rest (a.put o.dst (.int .i64 (min sLen dLen : Nat))) w') : wpList P ops Q (o :: rest) a w :=
  wpList_plain hgd fun _ hK => wp_cpy d s dT sT ho hu hsz hd hs hg hsrc h1 hD hfit fun w' h2 h3 => hK _ _ (h w' h2 h3)

theorem step_cpy {ops : Array Oper} {o : Oper} {a : Act} {K : Act → World → Prop} {Q : Exit → Act → World → Prop} {E : Prop} (hgd : o.guard = none) (d s : Operand) (dT sT : TypeId)
    (ho : o.op = .call { callee := .builtin .copy, args := #[d, s], argTypes := #[dT, sT] }) (hu : P.underlying dT = some (.slice e)) (hsz : (P.info? e).map (·.size) = some 1) {g off dLen sLen dCap sCap : Nat} {D A : Option Addr}
    (hd : a.eval d = .slice D dLen dCap) (hs : a.eval s = .slice A sLen sCap) {cur news : List Value} {t : TypeId}
    (hg : w.heap[g]? = some (.cells cur.toArray t (0, 0))) (hsrc : Src w A sLen news) (h1 : ∀ u ∈ news, u.oneCell' = true) (hD : 0 < dLen → D = some ⟨g, off, none⟩) (hfit : off + dLen ≤ cur.length)
    (h : ∀ w', Hid (w'.heap[g]? = some (.cells (spl cur off news (min sLen dLen)).toArray t (0, 0))) → Hid (Kp (fun k => k = g) w w') → K (a.put o.dst (.int .i64 (min sLen dLen : Nat))) w') :
    if Region.wanted o (yielded ops a.tmps) = true then Oper.wp P o a w K Q else E := by
  have hw : Region.wanted o (yielded ops a.tmps) = true := by simp [Region.wanted, hgd]
  rw [if_pos hw]
  exact wp_cpy d s dT sT ho hu hsz hd hs hg hsrc h1 hD hfit h
end
end Go.Proofs.YtfodkjpjejoemaaGreatDoor

/-
  Slicing a slice that reads as a list: x[k:], x[:m], x[k:m] as run equations whose values hide the question whether anything is left of the capacity; a slice of bytes as a string.
  Conditions: none (laws).
-/
namespace Go.Proofs.YtfodkjpjejoemaaGreatDoor
open Go Go.RowKit

section
variable {P : Program} {α : Type} {R : World → Value → α → Prop} {t e : TypeId} {w : World} {A : Option Addr} {n c : Nat} {L : List α}
theorem slc_from (ht : P.underlying t = some (.slice e)) (hz : ∀ w, (Go.sizeOf e).run P w = .ok 1 w) (h : Slc R w (.slice A n c) L) (k : Nat) (hk : k ≤ L.length) :
    ∃ A' c', (∀ (w' : World), (Instr.slice t (.slice A n c) (some (.int .i64 (k : Int))) none none).run P w' = .ok (.slice A' (n - k) c') w') ∧ ∀ w', Slc R w' (.slice A n c) L → Slc R w' (.slice A' (n - k) c') (L.drop k) := by
  have ht' : P.underlying t = some (.slice (P.elem t)) := by simp [Program.elem, ht]
  have he : P.elem t = e := by simp [Program.elem, ht]
  have hn : n = L.length := h.of_eq.1
  refine ⟨_, _, fun w' => ?_, fun _ h => h.drop_ k hk⟩
  rw [run_slice_l w' t _ _ _ ht' .i64 _ (by omega) (by omega), he, hz]
  simp [Result.andThen, sliced]
theorem slc_to (ht : P.underlying t = some (.slice e)) (hz : ∀ w, (Go.sizeOf e).run P w = .ok 1 w) (h : Slc R w (.slice A n c) L) (m : Nat) (hm : m ≤ L.length) :
    ∃ A' c', (∀ (w' : World), (Instr.slice t (.slice A n c) none (some (.int .i64 (m : Int))) none).run P w' = .ok (.slice A' m c') w') ∧ ∀ w', Slc R w' (.slice A n c) L → Slc R w' (.slice A' m c') (L.take m) := by
  have ht' : P.underlying t = some (.slice (P.elem t)) := by simp [Program.elem, ht]
  have he : P.elem t = e := by simp [Program.elem, ht]
  obtain ⟨hn, h1, h2, h3, h4⟩ := h.of_eq
  refine ⟨A, c, fun w' => ?_, fun _ h => h.take_ m hm⟩
  rw [run_slice_h w' t _ _ _ ht' .i64 _ (by omega) (by omega), he, hz]
  by_cases h0 : c = 0
  · subst h0; simp [Result.andThen, sliced]
  · cases A with
    | none => exact absurd (h3 rfl) h0
    | some a => simp [Result.andThen, sliced, Addr.add]
theorem slc_of (ht : P.underlying t = some (.slice e)) (hz : ∀ w, (Go.sizeOf e).run P w = .ok 1 w) (h : Slc R w (.slice A n c) L) (k m : Nat) (hk : k ≤ m) (hm : m ≤ L.length) :
    ∃ A' c', (∀ (w' : World), (Instr.slice t (.slice A n c) (some (.int .i64 (k : Int))) (some (.int .i64 (m : Int))) none).run P w' = .ok (.slice A' (m - k) c') w') ∧ ∀ w', Slc R w' (.slice A n c) L → Slc R w' (.slice A' (m - k) c') ((L.take m).drop k) := by
  have ht' : P.underlying t = some (.slice (P.elem t)) := by simp [Program.elem, ht]
  have he : P.elem t = e := by simp [Program.elem, ht]
  obtain ⟨hn, h1, h2, h3, h4⟩ := h.of_eq
  refine ⟨_, _, fun w' => ?_, fun _ h => (h.take_ m hm).drop_ k (by simp; omega)⟩
  rw [run_slice_lh w' t _ _ _ ht' .i64 .i64 _ _ (by omega) (by omega) (by omega), he, hz]
  simp [Result.andThen, sliced]
end

theorem toArray_size' (bs : List UInt8) : (⟨bs.toArray⟩ : ByteArray).size = bs.length := by simp [ByteArray.size]
theorem byts_bytes {w : World} {b o : Nat} {bs : List UInt8} (h : ∀ i (hi : i < bs.length), ∃ u, w.cell? ⟨b, o + i, none⟩ = some u ∧ U8 w u bs[i]) : Lib.Bytes w b o ⟨bs.toArray⟩ := by
  intro i hi
  have hi' : i < bs.length := by simpa [ByteArray.size] using hi
  obtain ⟨u, hu, hr⟩ := h i hi'
  rw [hu, hr]
  rfl
/-- string(b), b a slice of bytes: whatever its address -/
theorem byts_string {P : Program} {src e dst : TypeId} (hs : P.underlying src = some (.slice e)) (he : P.underlying e = some (.int .u8)) (hd : P.underlying dst = some .string) {w : World} {A : Option Addr} {n c : Nat} {bs : List UInt8} (h : Byts w (.slice A n c) bs) :
    (convert src dst (.slice A n c)).run P w = .ok (.string ⟨bs.toArray⟩) w := by
  obtain ⟨rfl, h1, h2, h3, h4⟩ := h.of_eq
  by_cases h0 : bs.length = 0
  · obtain rfl : bs = [] := List.eq_nil_of_length_eq_zero h0
    rw [run_convert_bytes_string w src dst e A _ c hs he hd]
    cases A with
    | none => simp [Conv.bytesToString]; rfl
    | some a => rw [run_bytesToString w a _ c [] (by simpa using run_loadCells_list (P := P) w a [] (fun j v hj => by simp at hj))]; rfl
  · obtain ⟨b, off, rfl, hc⟩ := h4 (by omega)
    have := Lib.run_convert_whole (P := P) w src e dst hs he hd b off ⟨bs.toArray⟩ (byts_bytes hc) c
    rw [toArray_size'] at this
    exact this
end Go.Proofs.YtfodkjpjejoemaaGreatDoor

/-
  Slices that stay as they are whatever is written elsewhere; what is owned.
  Conditions: none (laws).
-/
namespace Go.Proofs.YtfodkjpjejoemaaGreatDoor
open Go Go.RowKit

/-- bytes that stay as they are whatever is written into S -/
def Byp (w : World) (S : Nat → Prop) (v : Value) (L : List UInt8) : Prop := ∀ wx, Kp S w wx → Byts wx v L
theorem Byp.at_ {w : World} {S : Nat → Prop} {v : Value} {L : List UInt8} (h : Byp w S v L) : Byts w v L := h w (Kp.refl _ _)
theorem Byp.later {w w' : World} {S : Nat → Prop} {v : Value} {L : List UInt8} (h : Byp w S v L) (k : Kp S w w') : Byp w' S v L := fun wx kx => h wx (k.trans kx)
/-- what was there stays where only new blocks are written -/
theorem Byts.byp {w : World} {v : Value} {L : List UInt8} (h : Byts w v L) (B : Nat) (hB : w.heap.size ≤ B) : Byp w (fun i => B ≤ i) v L := fun wx kx => by
  obtain ⟨A, c, hv, h1, h2, h3, h4⟩ := h
  refine ⟨A, c, hv, h1, h2, h3, fun hn => ?_⟩
  obtain ⟨b', off, hA, hc⟩ := h4 hn
  refine ⟨b', off, hA, fun i hi => ?_⟩
  obtain ⟨u, hu, hr⟩ := hc i hi
  exact ⟨u, kx.cell_of hu (fun e => by have := World.block_lt_of_cell? w _ hu; simp at e this; omega), hr⟩

section
variable {w w' : World} {base : Nat} {e : TypeId} {v : Value} {xs : List Value}
theorem Own.block (h : Own w base e v xs) {g : Nat} (hg : v.ownBlock = some g) : base ≤ g ∧ ∃ cur, w.heap[g]? = some (.cells cur e (0, 0)) := by
  rcases h.2 with ⟨rfl, _⟩ | ⟨g', cap, cur, rfl, hb, hh, _⟩
  · simp [Value.ownBlock] at hg
  · simp [Value.ownBlock] at hg
    subst hg
    exact ⟨hb, cur, hh⟩
/-- two rows of different types of elements lie in different blocks -/
theorem Own.kp_type {t : TypeId} {b : Nat} {cs : Array Value} (h : Own w base e v xs) (hb : w.heap[b]? = some (.cells cs t (0, 0))) (ht : e ≠ t) {S : Nat → Prop} (hS : ∀ i, i < w.heap.size → S i → i = b) (k : Kp S w w') : Own w' base e v xs := by
  refine h.kp k fun g hg hs => ?_
  have hgb := hS g (h.lt g hg).2 hs
  subst hgb
  obtain ⟨_, cur, hh⟩ := h.block hg
  rw [hh] at hb
  simp at hb
  exact ht hb.2
theorem Own.kp_own {t : TypeId} {v2 : Value} {ys : List Value} (h : Own w base e v xs) (h2 : Own w base t v2 ys) (ht : e ≠ t) (k : Kp (fun i => some i = v2.ownBlock) w w') : Own w' base e v xs := by
  refine h.kp k fun g hg hs => ?_
  obtain ⟨_, cur, hh⟩ := h.block hg
  obtain ⟨_, cur2, hh2⟩ := h2.block hs.symm
  rw [hh] at hh2
  simp at hh2
  exact ht hh2.2
end

/-- what is owned from base on stays whatever is written below -/
theorem Own.byp {w : World} {base : Nat} {e : TypeId} {v : Value} {L : List UInt8} {f : UInt8 → Value} (h : Own w base e v (L.map f)) (hf : ∀ x, f x = .int .u8 x.toNat) : Byp w (fun i => i < base) v L := fun wx kx =>
  Own.slc_map f (h.kp kx fun b hb hlt => by have := (h.lt b hb).1; omega) fun x _ => hf x
theorem Byp.mono {w : World} {S T : Nat → Prop} {v : Value} {L : List UInt8} (h : Byp w S v L) (hST : ∀ i, i < w.heap.size → T i → S i) : Byp w T v L := fun wx kx => h wx (kx.mono hST)
end Go.Proofs.YtfodkjpjejoemaaGreatDoor

/-
  Facts of the program's types that appends and slices want.
  Conditions: none (closed facts).
-/
namespace Go.Proofs.YtfodkjpjejoemaaGreatDoor
open Go Go.RowKit

theorem appB : AppOk Tryz.prog 24 5 1 := by
  obtain ⟨i0, hi, hz0, hz1, hz2⟩ := info_parts (show (Tryz.prog.info? 5).map (fun i => (i.zero, i.size, i.bytes)) = some (some (.int .u8 0), 1, 1) by kernel_rfl)
  exact ⟨Tryz.underlying24, by omega, i0, _, hi, hz0, hz1, hz2, rfl⟩
theorem one1 (L : List UInt8) : ∀ u ∈ L.map u8v, u.oneCell' = true := by
  intro u hu; obtain ⟨x, _, rfl⟩ := List.mem_map.1 hu; rfl
theorem oneB (w : World) (x : UInt8) : Src (w.alloc (.cells #[u8v x] 5)) (some ⟨w.heap.size, 0, none⟩) 1 ([x].map u8v) := Src.one (by simp)

theorem szB (w : World) : (Go.sizeOf 5).run Tryz.prog w = .ok 1 w := by kernel_rfl
theorem appM : AppOk Tryz.prog 22 24 24 := by
  obtain ⟨i0, hi, hz0, hz1, hz2⟩ := info_parts (show (Tryz.prog.info? 24).map (fun i => (i.zero, i.size, i.bytes)) = some (some (.slice none 0 0), 1, 24) by kernel_rfl)
  exact ⟨Tryz.underlying22, by omega, i0, _, hi, hz0, hz1, hz2, rfl⟩
theorem getElem_snoc {α : Type} (L : List α) (x : α) (i : Nat) (h : i < (L ++ [x]).length) : (∃ h' : i < L.length, (L ++ [x])[i] = L[i]) ∨ (i = L.length ∧ (L ++ [x])[i] = x) := by
  rcases Nat.lt_or_ge i L.length with h' | h'
  · exact .inl ⟨h', List.getElem_append_left h'⟩
  · simp at h
    obtain rfl : i = L.length := by omega
    exact .inr ⟨rfl, by simp⟩

theorem szM (w : World) : (Go.sizeOf 24).run Tryz.prog w = .ok 1 w := by kernel_rfl

theorem errNew2_any (s : ByteArray) (w : World) :
    Calls Tryz.prog 57 #[.string s] w fun e w' => (∃ x, e = .returned (.iface 149 x)) ∧ Keep w w' := by
  go_enter Tryz.func57, Tryz.ntmps57
  go_wp2
  go_ret
  exact ⟨⟨_, rfl⟩, (Kp.refl _ _).alloc _⟩
end Go.Proofs.YtfodkjpjejoemaaGreatDoor

/-
  Trees in plain Lean: a tree over a list, divided at the greatest power of two below, is what pairing level by level gives.
  Conditions: none (definitions, and laws on them).
-/
namespace Go.Proofs.YtfodkjpjejoemaaGreatDoor
open Go

/-- the greatest power of two below n -/
def splt (n : Nat) : Nat := 2 ^ Nat.log2 (n - 1)
theorem splt_of (n j : Nat) (h1 : 2 ^ j < n) (h2 : n ≤ 2 * 2 ^ j) : splt n = 2 ^ j := by
  have h0 := Nat.pow_pos (n := j) (show 0 < 2 by omega)
  unfold splt
  rw [(Nat.log2_eq_iff (n := n - 1) (k := j) (by omega)).2 ⟨by omega, by rw [Nat.pow_succ]; omega⟩]
theorem splt_is (n : Nat) (h : 2 ≤ n) : ∃ j, splt n = 2 ^ j ∧ 2 ^ j < n ∧ n ≤ 2 * 2 ^ j := by
  have h1 := (Nat.log2_eq_iff (n := n - 1) (k := Nat.log2 (n - 1)) (by omega)).1 rfl
  exact ⟨_, rfl, by omega, by rw [Nat.pow_succ] at h1; omega⟩
theorem splt_lt (n : Nat) (h : 2 ≤ n) : 0 < splt n ∧ splt n < n := by
  obtain ⟨j, e, h1, h2⟩ := splt_is n h
  rw [e]
  exact ⟨Nat.pow_pos (by omega), h1⟩

section
variable {α : Type} (g : α → α → α) (d : α)
def treeF : Nat → List α → α
  | 0, _ => d
  | f + 1, L => if L.length ≤ 1 then L.headD d else g (treeF f (L.take (splt L.length))) (treeF f (L.drop (splt L.length)))
theorem treeF_enough : ∀ (f h : Nat) (L : List α), L.length ≤ f → L.length ≤ h → treeF g d f L = treeF g d h L
  | 0, 0, L, _, _ => rfl
  | 0, h + 1, L, hf, _ => by
    obtain rfl : L = [] := List.eq_nil_of_length_eq_zero (by omega)
    simp [treeF]
  | f + 1, 0, L, _, hh => by
    obtain rfl : L = [] := List.eq_nil_of_length_eq_zero (by omega)
    simp [treeF]
  | f + 1, h + 1, L, hf, hh => by
    simp only [treeF]
    by_cases h1 : L.length ≤ 1
    · rw [if_pos h1, if_pos h1]
    · rw [if_neg h1, if_neg h1]
      have hs := splt_lt L.length (by omega)
      rw [treeF_enough f h (L.take (splt L.length)) (by simp; omega) (by simp; omega), treeF_enough f h (L.drop (splt L.length)) (by simp; omega) (by simp; omega)]
/-- the tree's root; d where there is no leaf -/
def tree (L : List α) : α := treeF g d L.length L
theorem tree_nil : tree g d [] = d := rfl
theorem tree_one (a : α) : tree g d [a] = a := rfl
theorem tree_more (L : List α) (h : 2 ≤ L.length) : tree g d L = g (tree g d (L.take (splt L.length))) (tree g d (L.drop (splt L.length))) := by
  have hs := splt_lt L.length h
  obtain ⟨n, hn⟩ : ∃ n, L.length = n + 1 := ⟨L.length - 1, by omega⟩
  have e : tree g d L = treeF g d (n + 1) L := by unfold tree; rw [hn]
  rw [e]
  simp only [treeF]
  rw [if_neg (by omega)]
  rw [treeF_enough g d n (L.take (splt L.length)).length _ (by simp; omega) (Nat.le_refl _), treeF_enough g d n (L.drop (splt L.length)).length _ (by simp; omega) (Nat.le_refl _)]
  rfl
/-- one level up: two and two joined, an odd last one carried -/
def lvl : List α → List α
  | a :: b :: t => g a b :: lvl t
  | [a] => [a]
  | [] => []
theorem lvl_nil : lvl g [] = [] := rfl
theorem lvl_one (a : α) : lvl g [a] = [a] := rfl
theorem lvl_two (a b : α) (t : List α) : lvl g (a :: b :: t) = g a b :: lvl g t := rfl
theorem lvl_length : ∀ (L : List α), (lvl g L).length = (L.length + 1) / 2
  | [] => by rw [lvl_nil]; simp
  | [a] => by rw [lvl_one]; simp
  | a :: b :: t => by rw [lvl_two, List.length_cons, lvl_length t]; simp; omega
theorem lvl_append : ∀ (L M : List α), L.length % 2 = 0 → lvl g (L ++ M) = lvl g L ++ lvl g M
  | [], M, _ => rfl
  | [a], M, h => by simp at h
  | a :: b :: t, M, h => by
    rw [List.cons_append, List.cons_append, lvl_two, lvl_two, lvl_append t M (by simp at h; omega)]
    rfl
theorem tree_lvl : ∀ (n : Nat) (L : List α), L.length ≤ n → tree g d (lvl g L) = tree g d L := by
  intro n
  induction n with
  | zero =>
    intro L h
    obtain rfl : L = [] := List.eq_nil_of_length_eq_zero (by omega)
    rfl
  | succ n ih =>
    intro L h
    match L, h with
    | [], _ => rfl
    | [a], _ => rfl
    | [a, b], _ => rfl
    | a :: b :: c :: t, h =>
      obtain ⟨M, hM⟩ : ∃ M, M = a :: b :: c :: t := ⟨_, rfl⟩
      rw [← hM] at h ⊢
      have h3 : 3 ≤ M.length := by rw [hM]; simp
      obtain ⟨j, e, h1, h2⟩ := splt_is M.length (by omega)
      obtain ⟨i, rfl⟩ : ∃ i, j = i + 1 := ⟨j - 1, by
        rcases j with _ | j
        · simp at h2; omega
        · rfl⟩
      obtain ⟨K, hK⟩ : ∃ K, K = 2 ^ i := ⟨_, rfl⟩
      have hKp : 0 < K := by rw [hK]; exact Nat.pow_pos (by omega)
      have e2 : (2 : Nat) ^ (i + 1) = 2 * K := by rw [Nat.pow_succ, hK]; omega
      rw [e2] at e h1 h2
      have hl1 : (M.take (2 * K)).length = 2 * K := by rw [List.length_take]; omega
      have hl2 : (M.drop (2 * K)).length = M.length - 2 * K := by rw [List.length_drop]
      have ea : lvl g M = lvl g (M.take (2 * K)) ++ lvl g (M.drop (2 * K)) := by
        rw [← lvl_append g _ _ (by rw [hl1]; omega), List.take_append_drop]
      have hll1 : (lvl g (M.take (2 * K))).length = K := by rw [lvl_length, hl1]; omega
      have hll := lvl_length g M
      have es : splt (lvl g M).length = K := by
        rw [hK]
        apply splt_of
        · rw [← hK, hll]; omega
        · rw [← hK, hll]; omega
      rw [tree_more g d (lvl g M) (by rw [hll]; omega), tree_more g d M (by omega), es, e]
      rw [ea]
      rw [List.take_append_of_le_length (by omega), List.take_of_length_le (by omega), List.drop_append_of_le_length (by omega), List.drop_of_length_le (by omega), List.nil_append]
      rw [ih (M.take (2 * K)) (by rw [hl1]; omega), ih (M.drop (2 * K)) (by rw [hl2]; omega)]
end
end Go.Proofs.YtfodkjpjejoemaaGreatDoor
