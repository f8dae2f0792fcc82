
/-
  Chains of trees in plain Lean: a pair's leaf, operations, what checking a chain answers.
  Conditions: none (definitions, and laws on them).
-/
import Derived.Test.YtfodkjpjejoemaaGreatDoorZf
import Derived.Test.YtfodkjpjejoemaaGreatDoorZi
import Derived.Test.YtfodkjpjejoemaaGreatDoorZo
import Derived.Test.YtfodkjpjejoemaaGreatDoorZt
namespace Go.Proofs.YtfodkjpjejoemaaGreatDoor
open Go Go.RowKit

/-- the leaf of a key and a value -/
def pairS (k v : List UInt8) : List UInt8 := (uvar k.length ++ k) ++ (uvar (sha v).length ++ sha v)
/-- an operation: its key, its proof, the root to which the proof leads -/
structure Opn where
  key : List UInt8
  prf : Prf
  root : List UInt8
/-- an operation as a message (its key is not empty) -/
def opMsg (k : List UInt8) (p : Prf) : List UInt8 := fByt 10 k ++ fByt 18 (msgOf p)
/-- operations run against keys, from a value to a root -/
def runC : List Opn → List (List UInt8) → List UInt8 → List UInt8 → Bool
  | [], ks, v, root => (root == v) && ks.isEmpty
  | _ :: _, [], _, _ => false
  | o :: r, k :: ks, v, root => (k == o.key) && ((leafS (pairS o.key v) == o.prf.leaf) && runC r ks o.root root)
/-- what a chain answers along a path -/
def chainB (ops : List Opn) (root : List UInt8) (path : List UInt8) (v : List UInt8) : Bool :=
  match keysOf path with
  | none => false
  | some ks => runC ops ks.reverse v root
/-- each operation's leaf is the pair of its key and what stands before it -/
def Linked : List UInt8 → List Opn → List UInt8 → Prop
  | v, [], r => v = r
  | v, o :: t, r => o.prf.leaf = leafS (pairS o.key v) ∧ Linked o.root t r

theorem runC_linked (ops : List Opn) : ∀ (v r : List UInt8) (ks : List (List UInt8)) (root : List UInt8), Linked v ops r → runC ops ks v root = ((ks == ops.map Opn.key) && (root == r)) := by
  induction ops with
  | nil =>
    intro v r ks root h
    unfold Linked at h
    subst h
    cases ks <;> simp [runC]
  | cons o t ih =>
    intro v r ks root h
    obtain ⟨h1, h2⟩ := h
    cases ks with
    | nil => simp [runC]
    | cons k ks =>
      unfold runC
      rw [ih o.root r ks root h2, h1]
      simp [Bool.and_assoc]
theorem runC_first (o : Opn) (t : List Opn) (f r v : List UInt8) (h : Linked f (o :: t) r) : runC (o :: t) ((o :: t).map Opn.key) v r = (leafS (pairS o.key v) == leafS (pairS o.key f)) := by
  obtain ⟨h1, h2⟩ := h
  simp only [List.map_cons]
  unfold runC
  rw [runC_linked t o.root r _ r h2, h1]
  simp
theorem linked_snoc (ops : List Opn) : ∀ (v r : List UInt8) (o : Opn), Linked v ops r → o.prf.leaf = leafS (pairS o.key r) → Linked v (ops ++ [o]) o.root := by
  induction ops with
  | nil => intro v r o h h2; unfold Linked at h; subst h; exact ⟨h2, rfl⟩
  | cons a t ih => intro v r o h h2; exact ⟨h.1, ih _ _ _ h.2 h2⟩
theorem reverse_beq (a b : List (List UInt8)) : (a.reverse == b) = (a == b.reverse) := by
  rw [Bool.eq_iff_iff, beq_iff_eq, beq_iff_eq]
  constructor
  · rintro rfl; simp
  · rintro rfl; simp

theorem chain_good (ops : List Opn) (f r way : List UInt8) (h : Linked f ops r) (hw : keysOf way = some (ops.map Opn.key).reverse) (root : List UInt8) : chainB ops root way f = (root == r) := by
  unfold chainB
  rw [hw]
  simp only [List.reverse_reverse]
  rw [runC_linked ops f r _ root h]
  simp
theorem chain_value (o : Opn) (t : List Opn) (f r way v : List UInt8) (h : Linked f (o :: t) r) (hw : keysOf way = some ((o :: t).map Opn.key).reverse) : chainB (o :: t) r way v = (leafS (pairS o.key v) == leafS (pairS o.key f)) := by
  unfold chainB
  rw [hw]
  simp only [List.reverse_reverse]
  exact runC_first o t f r v h
theorem chain_path (ops : List Opn) (f r path : List UInt8) (h : Linked f ops r) : chainB ops r path f = (match keysOf path with | none => false | some ks => ks == (ops.map Opn.key).reverse) := by
  unfold chainB
  cases keysOf path with
  | none => rfl
  | some ks => simp only []; rw [runC_linked ops f r _ r h, reverse_beq]; simp

theorem pairS_length (k v : List UInt8) (h : k.length ≤ 4294967296) : (pairS k v).length ≤ k.length + 52 := by
  unfold pairS
  have h1 := uvar_ten k.length (by omega)
  have h2 : (sha v).length = 32 := sha_length v
  have h3 := uvar_ten (sha v).length (by omega)
  simp only [List.length_append]
  omega
end Go.Proofs.YtfodkjpjejoemaaGreatDoor
