/-
  Proofs of a tree's leaves: two trees of nodes joined, in memory.
  Conditions: none (laws).
-/
import Derived.Test.YtfodkjpjejoemaaDoorTrail1
namespace Go.Proofs.YtfodkjpjejoemaaDoor
open Go Go.RowKit

/-- a leaf's node, and the way from it to the root's -/
def Trail (w : World) (bd lo r p : Nat) (leaf : List UInt8) (As : List (List UInt8)) : Prop :=
  (∃ hv par le ri, Node w p hv par le ri ∧ HashIn w bd hv leaf) ∧ lo ≤ p ∧ p ≤ r ∧ PathTo w bd lo r p As
def Trails (w : World) (bd lo r : Nat) (ps : List Nat) (L : List (List UInt8)) : Prop :=
  ps.length = L.length ∧ ∀ i (h : i < ps.length) (h2 : i < L.length), Trail w bd lo r ps[i] (leafS L[i]) (auntsS L i)
/-- a root's node, without parent and sibling -/
def RootN (w : World) (bd r : Nat) (a : List UInt8) : Prop := ∃ hv, Node w r hv (.pointer none) (.pointer none) (.pointer none) ∧ HashIn w bd hv a
/-- all nodes of a tree -/
def Forest (w : World) (bd lo : Nat) (tv : Value) (L : List (List UInt8)) (r : Nat) : Prop :=
  ∃ ps, Own w lo 144 tv (ps.map ptrV) ∧ Trails w bd lo r ps L ∧ lo ≤ r ∧ RootN w bd r (rootS L)

theorem Node.setPar {w : World} {b : Nat} {hv par le ri v : Value} (h : Node w b hv par le ri) : Node (w.setCell ⟨b, 1, none⟩ v) b hv v le ri := by
  unfold Node at h ⊢; rw [heap_setCell_same _ _ _ _ _ _ h]; rfl
theorem Node.setLeft {w : World} {b : Nat} {hv par le ri v : Value} (h : Node w b hv par le ri) : Node (w.setCell ⟨b, 2, none⟩ v) b hv par v ri := by
  unfold Node at h ⊢; rw [heap_setCell_same _ _ _ _ _ _ h]; rfl
theorem Node.setRight {w : World} {b : Nat} {hv par le ri v : Value} (h : Node w b hv par le ri) : Node (w.setCell ⟨b, 3, none⟩ v) b hv par le v := by
  unfold Node at h ⊢; rw [heap_setCell_same _ _ _ _ _ _ h]; rfl
theorem Node.other {w : World} {b b' o : Nat} {hv par le ri v : Value} (h : Node w b hv par le ri) (hne : b ≠ b') : Node (w.setCell ⟨b', o, none⟩ v) b hv par le ri :=
  (Below.heap_setCell _ _ _ _ hne).trans h
theorem Node.kp {w w' : World} {S : Nat → Prop} {b : Nat} {hv par le ri : Value} (h : Node w b hv par le ri) (k : Kp S w w') (hS : ¬ S b) : Node w' b hv par le ri := (k.block b (lt_of_block h) hS).trans h

/-- the world behind the four stores that join two roots below a new one -/
def joinW (w3 : World) (rl rr : Nat) (hroot : Value) : World :=
  ((((w3.alloc (.cells #[hroot, .pointer none, .pointer none, .pointer none] 148)).setCell ⟨rl, 1, none⟩ (ptrV w3.heap.size)).setCell ⟨rl, 3, none⟩ (ptrV rr)).setCell ⟨rr, 1, none⟩ (ptrV w3.heap.size)).setCell ⟨rr, 2, none⟩ (ptrV rl)
theorem joinW_kp (w3 : World) (rl rr : Nat) (hroot : Value) : Kp (fun j => j = rl ∨ j = rr) w3 (joinW w3 rl rr hroot) :=
  ((((Kp.refl _ w3).alloc _).setCell (p := ⟨rl, 1, none⟩) (fun _ => .inl rfl) _).setCell (p := ⟨rl, 3, none⟩) (fun _ => .inl rfl) _).setCell (p := ⟨rr, 1, none⟩) (fun _ => .inr rfl) _ |>.setCell (p := ⟨rr, 2, none⟩) (fun _ => .inr rfl) _
theorem join_nodes {w3 : World} {rl rr : Nat} {hl hr hroot : Value} (n1 : Node w3 rl hl (.pointer none) (.pointer none) (.pointer none)) (n2 : Node w3 rr hr (.pointer none) (.pointer none) (.pointer none)) (hne : rl ≠ rr) :
    Node (joinW w3 rl rr hroot) rl hl (ptrV w3.heap.size) (.pointer none) (ptrV rr) ∧ Node (joinW w3 rl rr hroot) rr hr (ptrV w3.heap.size) (ptrV rl) (.pointer none) ∧ Node (joinW w3 rl rr hroot) w3.heap.size hroot (.pointer none) (.pointer none) (.pointer none) := by
  have l1 := lt_of_block n1
  have l2 := lt_of_block n2
  have ka : Keep w3 (w3.alloc (.cells #[hroot, .pointer none, .pointer none, .pointer none] 148)) := (Kp.refl _ _).alloc _
  have m1 := n1.keep ka
  have m2 := n2.keep ka
  have m3 : Node (w3.alloc (.cells #[hroot, .pointer none, .pointer none, .pointer none] 148)) w3.heap.size hroot (.pointer none) (.pointer none) (.pointer none) := heap_alloc_new _ _
  exact ⟨((m1.setPar.setRight).other hne).other hne, ((((m2.other hne.symm).other hne.symm).setPar).setLeft), (((m3.other (by omega)).other (by omega)).other (by omega)).other (by omega)⟩

theorem Own.notNode {w : World} {base b : Nat} {e : TypeId} {v : Value} {xs : List Value} {hv par le ri : Value} (h : Own w base e v xs) (n : Node w b hv par le ri) (he : e ≠ 148) : v.ownBlock ≠ some b := fun hb => by
  obtain ⟨_, cur, hh⟩ := h.block hb
  unfold Node at n
  rw [n] at hh
  simp at hh
  exact he hh.2.symm

/-- what a way keeps of itself from one world to another -/
structure Moves (w w' : World) (bd lo r : Nat) : Prop where
  node : ∀ j hv par le ri, lo ≤ j → j < r → Node w j hv par le ri → Node w' j hv par le ri
  hash : ∀ hs a, HashIn w bd hs a → HashIn w' bd hs a
theorem Moves.path {w w' : World} {bd lo r : Nat} (m : Moves w w' bd lo r) : ∀ (As : List (List UInt8)) (p : Nat), PathTo w bd lo r p As → PathTo w' bd lo r p As
  | [], _, h => h
  | a :: As, p, h => by
    obtain ⟨h1, h2, hv, par, le, ri, s, hs, sp, sl, sr, n1, c1, h3, h4, n2, hh, rest⟩ := h
    exact ⟨h1, h2, hv, par, le, ri, s, hs, sp, sl, sr, m.node _ _ _ _ _ h1 h2 n1, c1, h3, h4, m.node _ _ _ _ _ h3 h4 n2, m.hash _ _ hh, Moves.path m As par rest⟩
/-- a way below a root that has got a parent and a sibling -/
theorem Trail.up {w w' : World} {bd lo lo' r r' s p : Nat} {leaf a : List UInt8} {As : List (List UInt8)} {hr hs sp sl sr le ri : Value} (h : Trail w bd lo r p leaf As) (m : Moves w w' bd lo r) (hlo : lo' ≤ lo)
    (n0 : ∃ x y z, Node w r hr x y z) (n1 : Node w' r hr (ptrV r') le ri) (c1 : le = ptrV s ∨ le = .pointer none ∧ ri = ptrV s) (hrr : r < r') (h3 : lo' ≤ s) (h4 : s < r') (n2 : Node w' s hs sp sl sr) (hh : HashIn w' bd hs a) :
    Trail w' bd lo' r' p leaf (As ++ [a]) := by
  obtain ⟨⟨hv, par, le0, ri0, nn, hleaf⟩, g1, g2, hpath⟩ := h
  refine ⟨?_, by omega, by omega, PathTo.up (by omega) hrr n1 c1 h3 h4 n2 hh As p (PathTo.lower hlo As p (m.path As p hpath))⟩
  rcases Nat.lt_or_ge p r with hp | hp
  · exact ⟨hv, par, le0, ri0, m.node _ _ _ _ _ g1 hp nn, m.hash _ _ hleaf⟩
  · obtain rfl : p = r := by omega
    obtain ⟨x, y, z, n00⟩ := n0
    have e : hv = hr := by
      unfold Node at nn n00
      rw [nn] at n00
      simp at n00
      exact n00.1
    subst e
    exact ⟨_, _, _, _, n1, m.hash _ _ hleaf⟩
end Go.Proofs.YtfodkjpjejoemaaDoor
