/-
  Slices that stay as they are whatever is written elsewhere; what is owned.
  Conditions: none (laws).
-/
import Derived.Test.YtfodkjpjejoemaaDoorSlc
namespace Go.Proofs.YtfodkjpjejoemaaDoor
open Go Go.RowKit

/-- bytes that stay as they are whatever is written into S -/
def Byp (w : World) (S : Nat → Prop) (v : Value) (L : List UInt8) : Prop := ∀ wx, Kp S w wx → Byts wx v L
theorem Byp.at_ {w : World} {S : Nat → Prop} {v : Value} {L : List UInt8} (h : Byp w S v L) : Byts w v L := h w (Kp.refl _ _)
theorem Byp.later {w w' : World} {S : Nat → Prop} {v : Value} {L : List UInt8} (h : Byp w S v L) (k : Kp S w w') : Byp w' S v L := fun wx kx => h wx (k.trans kx)
/-- what was there stays where only new blocks are written -/
theorem Byts.byp {w : World} {v : Value} {L : List UInt8} (h : Byts w v L) (B : Nat) (hB : w.heap.size ≤ B) : Byp w (fun i => B ≤ i) v L := fun wx kx => by
  obtain ⟨A, c, hv, h1, h2, h3, h4⟩ := h
  refine ⟨A, c, hv, h1, h2, h3, fun hn => ?_⟩
  obtain ⟨b', off, hA, hc⟩ := h4 hn
  refine ⟨b', off, hA, fun i hi => ?_⟩
  obtain ⟨u, hu, hr⟩ := hc i hi
  exact ⟨u, kx.cell_of hu (fun e => by have := World.block_lt_of_cell? w _ hu; simp at e this; omega), hr⟩

section
variable {w w' : World} {base : Nat} {e : TypeId} {v : Value} {xs : List Value}
theorem Own.block (h : Own w base e v xs) {g : Nat} (hg : v.ownBlock = some g) : base ≤ g ∧ ∃ cur, w.heap[g]? = some (.cells cur e (0, 0)) := by
  rcases h.2 with ⟨rfl, _⟩ | ⟨g', cap, cur, rfl, hb, hh, _⟩
  · simp [Value.ownBlock] at hg
  · simp [Value.ownBlock] at hg
    subst hg
    exact ⟨hb, cur, hh⟩
/-- two rows of different types of elements lie in different blocks -/
theorem Own.kp_type {t : TypeId} {b : Nat} {cs : Array Value} (h : Own w base e v xs) (hb : w.heap[b]? = some (.cells cs t (0, 0))) (ht : e ≠ t) {S : Nat → Prop} (hS : ∀ i, i < w.heap.size → S i → i = b) (k : Kp S w w') : Own w' base e v xs := by
  refine h.kp k fun g hg hs => ?_
  have hgb := hS g (h.lt g hg).2 hs
  subst hgb
  obtain ⟨_, cur, hh⟩ := h.block hg
  rw [hh] at hb
  simp at hb
  exact ht hb.2
theorem Own.kp_own {t : TypeId} {v2 : Value} {ys : List Value} (h : Own w base e v xs) (h2 : Own w base t v2 ys) (ht : e ≠ t) (k : Kp (fun i => some i = v2.ownBlock) w w') : Own w' base e v xs := by
  refine h.kp k fun g hg hs => ?_
  obtain ⟨_, cur, hh⟩ := h.block hg
  obtain ⟨_, cur2, hh2⟩ := h2.block hs.symm
  rw [hh] at hh2
  simp at hh2
  exact ht hh2.2
end

/-- what is owned from base on stays whatever is written below -/
theorem Own.byp {w : World} {base : Nat} {e : TypeId} {v : Value} {L : List UInt8} {f : UInt8 → Value} (h : Own w base e v (L.map f)) (hf : ∀ x, f x = .int .u8 x.toNat) : Byp w (fun i => i < base) v L := fun wx kx =>
  Own.slc_map f (h.kp kx fun b hb hlt => by have := (h.lt b hb).1; omega) fun x _ => hf x
theorem Byp.mono {w : World} {S T : Nat → Prop} {v : Value} {L : List UInt8} (h : Byp w S v L) (hST : ∀ i, i < w.heap.size → T i → S i) : Byp w T v L := fun wx kx => h wx (kx.mono hST)
end Go.Proofs.YtfodkjpjejoemaaDoor
