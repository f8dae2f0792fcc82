/-
  Words of memory that all texts of this seat use: a slice that reads as a list, whatever its elements; a world of which only some blocks have turned.
  Conditions: none (definitions, and laws on them).
-/
import Derived.Test.YtfodkjpjejoemaaDoorProg
import Derived.WalkKit
import Derived.Deep.Draws
import Derived.Lib.Hide
namespace Go.Proofs.YtfodkjpjejoemaaDoor
open Go Go.RowKit

/-- A world that has grown: blocks outside S are as they were. -/
structure Kp (S : Nat → Prop) (w w' : World) : Prop where
  os : w'.os = w.os
  tape : w'.tape = w.tape
  output : w'.output = w.output
  size : w.heap.size ≤ w'.heap.size
  block : ∀ i, i < w.heap.size → ¬ S i → w'.heap[i]? = w.heap[i]?

abbrev Keep (w w' : World) : Prop := Kp (fun _ => False) w w'

section
variable {S T : Nat → Prop} {w w' w'' : World}
theorem Kp.refl (S : Nat → Prop) (w : World) : Kp S w w := ⟨rfl, rfl, rfl, Nat.le_refl _, fun _ _ _ => rfl⟩
theorem Kp.trans (h : Kp S w w') (k : Kp S w' w'') : Kp S w w'' :=
  ⟨k.os.trans h.os, k.tape.trans h.tape, k.output.trans h.output, Nat.le_trans h.size k.size, fun i hi hs => (k.block i (Nat.lt_of_lt_of_le hi h.size) hs).trans (h.block i hi hs)⟩
/-- what the second step may write need only be new, or in S -/
theorem Kp.trans' (h : Kp S w w') (k : Kp T w' w'') (hT : ∀ i, i < w.heap.size → T i → S i) : Kp S w w'' :=
  ⟨k.os.trans h.os, k.tape.trans h.tape, k.output.trans h.output, Nat.le_trans h.size k.size, fun i hi hs => (k.block i (Nat.lt_of_lt_of_le hi h.size) (fun ht => hs (hT i hi ht))).trans (h.block i hi hs)⟩
theorem Kp.mono (h : Kp S w w') (hT : ∀ i, i < w.heap.size → S i → T i) : Kp T w w' := ⟨h.os, h.tape, h.output, h.size, fun i hi ht => h.block i hi (fun hs => ht (hT i hi hs))⟩
theorem Kp.keep (h : Keep w w') : Kp S w w' := h.mono fun _ _ x => x.elim
theorem Kp.drew (h : Kp S w w') : Kp S w w'.drew := ⟨h.os, h.tape, h.output, h.size, h.block⟩
theorem Kp.drewN (h : Kp S w w') (n : Nat) : Kp S w (w'.drewN n) := ⟨h.os, h.tape, h.output, h.size, h.block⟩
theorem Kp.alloc (h : Kp S w w') (o : Obj) : Kp S w (w'.alloc o) :=
  h.trans ⟨rfl, rfl, rfl, by simp, fun i hi _ => Below.heap_alloc _ _ _ hi⟩
theorem Kp.setCell (h : Kp S w w') {p : Addr} (hp : p.block < w.heap.size → S p.block) (u : Value) : Kp S w (w'.setCell p u) :=
  h.trans' (T := fun i => i = p.block) ⟨rfl, rfl, rfl, by simp [World.setCell], fun i _ hne => Below.heap_setCell _ _ _ _ hne⟩ fun i hi e => by subst e; exact hp hi
theorem Kp.of_below (h : Below w.heap.size w w') : Keep w w' := ⟨h.os, h.tape, h.output, h.size, fun i hi _ => h.block i hi⟩
theorem Kp.below (h : Keep w w') : Below w.heap.size w w' := ⟨h.os, h.tape, h.output, h.size, fun i hi => h.block i hi (fun x => x)⟩
theorem Kp.of_grown {r : Option Nat} (h : w.grownBy w' r) : Kp (fun i => some i = r) w w' := ⟨h.os, h.tape, h.output, h.size, fun i hi hn => h.block i hi hn⟩
theorem Kp.cell (h : Kp S w w') {p : Addr} (hb : p.block < w.heap.size) (hs : ¬ S p.block) : w'.cell? p = w.cell? p := World.cell?_of_block (w := w) (h.block p.block hb hs)
theorem Kp.frozen (h : Kp S w w') {p : Addr} (hb : p.block < w.heap.size) (hs : ¬ S p.block) : w'.frozen? p = w.frozen? p := World.frozen?_of_block (w := w) (h.block p.block hb hs)
/-- a cell that was there is as it was -/
theorem Kp.cell_of (h : Kp S w w') {p : Addr} {u : Value} (hc : w.cell? p = some u) (hs : ¬ S p.block) : w'.cell? p = some u :=
  (h.cell (World.block_lt_of_cell? w p hc) hs).trans hc
/-- the two rules that a walk uses by itself behind a contract -/
theorem Keep.rules (h : Keep w w') : (∀ b o, b < w.heap.size → w'.cell? ⟨b, o, none⟩ = w.cell? ⟨b, o, none⟩) ∧ (∀ b o, b < w.heap.size → w'.frozen? ⟨b, o, none⟩ = w.frozen? ⟨b, o, none⟩) :=
  ⟨fun b o hb => h.cell (p := ⟨b, o, none⟩) hb (fun x => x), fun b o hb => h.frozen (p := ⟨b, o, none⟩) hb (fun x => x)⟩
end

/-- A slice value whose elements (one cell each) are related to the list L by R. -/
def Slc {α : Type} (R : World → Value → α → Prop) (w : World) (v : Value) (L : List α) : Prop :=
  ∃ (A : Option Addr) (c : Nat), v = .slice A L.length c ∧ L.length ≤ c ∧ c ≤ maxLen ∧ (A = none → c = 0) ∧
    (0 < L.length → ∃ b off, A = some ⟨b, off, none⟩ ∧ ∀ i (h : i < L.length), ∃ u, w.cell? ⟨b, off + i, none⟩ = some u ∧ R w u L[i])

def U8 (_ : World) (u : Value) (x : UInt8) : Prop := u = .int .u8 x.toNat
/-- a slice of bytes -/
abbrev Byts (w : World) (v : Value) (bs : List UInt8) : Prop := Slc U8 w v bs
/-- a slice of slices of bytes -/
abbrev Mat (w : World) (v : Value) (L : List (List UInt8)) : Prop := Slc Byts w v L

section
variable {α : Type} {R : World → Value → α → Prop} {w w' : World} {v : Value} {L : List α}
theorem Slc.keepS {S : Nat → Prop} (h : Slc R w v L) (k : Kp S w w') (hS : ∀ A c b off, v = .slice A L.length c → A = some ⟨b, off, none⟩ → ¬ S b) (hR : ∀ u x, x ∈ L → R w u x → R w' u x) : Slc R w' v L := by
  obtain ⟨A, c, hv, h1, h2, h3, h4⟩ := h
  refine ⟨A, c, hv, h1, h2, h3, fun hn => ?_⟩
  obtain ⟨b, off, hA, hc⟩ := h4 hn
  refine ⟨b, off, hA, fun i hi => ?_⟩
  obtain ⟨u, hu, hr⟩ := hc i hi
  exact ⟨u, k.cell_of hu (hS A c b off hv hA), hR u _ (List.getElem_mem hi) hr⟩
theorem Slc.keep (h : Slc R w v L) (k : Keep w w') (hR : ∀ u x, R w u x → R w' u x) : Slc R w' v L := h.keepS k (fun _ _ _ _ _ _ x => x) fun u x _ => hR u x
theorem Slc.nil_ : Slc R w (.slice none 0 0) [] := ⟨none, 0, rfl, Nat.le_refl _, by simp [maxLen], fun _ => rfl, fun h => absurd h (by simp)⟩
end
theorem Slc.of_eq {α : Type} {R : World → Value → α → Prop} {w : World} {A : Option Addr} {n c : Nat} {L : List α} (h : Slc R w (.slice A n c) L) :
    n = L.length ∧ L.length ≤ c ∧ c ≤ maxLen ∧ (A = none → c = 0) ∧ (0 < L.length → ∃ b off, A = some ⟨b, off, none⟩ ∧ ∀ i (h : i < L.length), ∃ u, w.cell? ⟨b, off + i, none⟩ = some u ∧ R w u L[i]) := by
  obtain ⟨A', c', hv, h1, h2, h3, h4⟩ := h
  simp only [Value.slice.injEq] at hv
  obtain ⟨rfl, rfl, rfl⟩ := hv
  exact ⟨rfl, h1, h2, h3, h4⟩
/-- v[:m] -/
theorem Slc.take_ {α : Type} {R : World → Value → α → Prop} {w : World} {A : Option Addr} {n c : Nat} {L : List α} (h : Slc R w (.slice A n c) L) (m : Nat) (hm : m ≤ L.length) : Slc R w (.slice A m c) (L.take m) := by
  obtain ⟨rfl, h1, h2, h3, h4⟩ := h.of_eq
  have hl : (L.take m).length = m := by simp; omega
  refine ⟨A, c, by rw [hl], by omega, h2, h3, fun hp => ?_⟩
  obtain ⟨b, off, hA, hc⟩ := h4 (by omega)
  refine ⟨b, off, hA, fun i hi => ?_⟩
  obtain ⟨u, hu, hr⟩ := hc i (by omega)
  exact ⟨u, hu, by simpa using hr⟩
/-- v[k:] -/
theorem Slc.drop_ {α : Type} {R : World → Value → α → Prop} {w : World} {A : Option Addr} {n c : Nat} {L : List α} (h : Slc R w (.slice A n c) L) (k : Nat) (hk : k ≤ L.length) :
    Slc R w (.slice (if c = k then A else A.map fun a => a.add k) (n - k) (c - k)) (L.drop k) := by
  obtain ⟨rfl, h1, h2, h3, h4⟩ := h.of_eq
  have hl : (L.drop k).length = L.length - k := by simp
  refine ⟨_, c - k, by rw [hl], by omega, by omega, ?_, fun hp => ?_⟩
  · split
    · intro e; have := h3 e; omega
    · intro e
      cases A with
      | none => have := h3 rfl; omega
      | some a => simp at e
  · obtain ⟨b, off, rfl, hc⟩ := h4 (by omega)
    rw [if_neg (by omega)]
    refine ⟨b, off + k, by simp [Addr.add], fun i hi => ?_⟩
    obtain ⟨u, hu, hr⟩ := hc (k + i) (by omega)
    exact ⟨u, by rw [Nat.add_assoc]; exact hu, by simpa using hr⟩
theorem Byts.keep {w w' : World} {v : Value} {bs : List UInt8} (h : Byts w v bs) (k : Keep w w') : Byts w' v bs := Slc.keep h k fun _ _ h => h
theorem Mat.keep {w w' : World} {v : Value} {L : List (List UInt8)} (h : Mat w v L) (k : Keep w w') : Mat w' v L := Slc.keep h k fun _ _ h => Byts.keep h k

/-- make([]T, n), T of one cell, n whatever -/
theorem run_make_row1 {P : Program} (t e : TypeId) (i : TypeInfo) (z : Value) (ht : P.underlying t = some (.slice e)) (hi : P.info? e = some i) (hz : i.zero = some z) (hs : i.size = 1) (hz1 : z.cells = #[z])
    (n : Nat) (N M : Int) (hN : N = n) (hM : M = n) (hb : i.bytes * n ≤ 281474976710656) (h63 : n ≤ 9223372036854775807) (w : World) :
    (Instr.makeSlice t (.int .i64 N) (.int .i64 M)).run P w = .ok (.slice (some ⟨w.heap.size, 0, none⟩) n n) (w.alloc (.cells (List.replicate n z).toArray e)) := by
  subst hN; subst hM
  have hb' : (i.bytes : Int) * (n : Int) ≤ 281474976710656 := by
    have h : ((i.bytes * n : Nat) : Int) ≤ 281474976710656 := by omega
    rwa [Int.natCast_mul] at h
  have hr := run_make (P := P) w t e i z ht hi hz .i64 .i64 n n (by omega) (Int.le_refl _) hb' (by omega)
  rw [hr, hz1, hs]
  have : madeCells #[z] ((n : Int).toNat * 1) = (List.replicate n z).toArray := by
    unfold madeCells
    apply Array.ext
    · simp
    · intro j h1 h2
      simp [Nat.mod_one]
  rw [this]
  simp

theorem ret_b {a b : Bool} (h : a = b) : Ending.returned (.bool a) = .returned (.bool b) := by rw [h]
theorem ret_i {k : IntKind} {a b : Int} (h : a = b) : Ending.returned (.int k a) = .returned (.int k b) := by rw [h]
theorem ret_v {a b : Value} (h : a = b) : Ending.returned a = .returned b := by rw [h]

end Go.Proofs.YtfodkjpjejoemaaDoor
