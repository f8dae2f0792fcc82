/-
  How much an argument that is read holds: lists of bytes, lists of such lists, bounded by the bulk of what was read.
  Conditions: none (laws).
-/
import Derived.Test.YtfodkjpjejoemaaDoorOpen
import Derived.Test.YtfodkjpjejoemaaDoorRows
namespace Go.Proofs.YtfodkjpjejoemaaDoor
open Go Go.RowKit Go.WideShapes Go.ChangeShapes Go.Deep

theorem bulk_pos {H : Type} (d : DataW H) : 1 ≤ Rows.uptoBulk d := by
  cases d with
  | lit l => cases l <;> simp [Rows.uptoBulk]
  | _ => simp [Rows.uptoBulk]
theorem bulk_sum {α H : Type} (size : α → Nat) : ∀ (L : List α) (Ds : List (DataW H)), L.length = Ds.length → (∀ i (h : i < L.length) (h' : i < Ds.length), size L[i] ≤ Rows.uptoBulk Ds[i]) → (L.map size).sum ≤ Rows.uptoBulkAll Ds
  | [], Ds, _, _ => by simp
  | a :: L, [], h, _ => by simp at h
  | a :: L, d :: Ds, h, hh => by
    have h0 := hh 0 (by simp) (by simp)
    have ih := bulk_sum size L Ds (by simpa using h) (fun i hi hi' => hh (i + 1) (by simp; omega) (by simp; omega))
    simp only [List.map_cons, List.sum_cons, Rows.uptoBulkAll]
    simp at h0
    omega

section
variable {H : Type} {enc : TypeId × Value → H} {P : Program} {w : World} {base : Nat} {spare : Nat → Bool} {held : Bool}

theorem open_slcB {α : Type} (R : World → Value → α → Prop) (size : α → Nat) {t e : TypeId} (ht : P.underlying t = some (.slice e)) (hc : P.cellsOf e = 1)
    (hR : ∀ (fuel : Nat) (u : Value) (x : DataW H × List MemPlace), DataW.trod enc P w base spare held fuel e [u] = some x → ∃ y, R w u y ∧ size y ≤ Rows.uptoBulk x.1)
    {fuel : Nat} {v : Value} {x : DataW H × List MemPlace} (h : DataW.trod enc P w base spare held fuel t [v] = some x) : ∃ L, Slc R w v L ∧ (L.map size).sum + 1 ≤ Rows.uptoBulk x.1 := by
  rcases open_slice1 ht hc h with ⟨hcs, hx0⟩ | ⟨a, len, cap, m, n, V, D, Pl, hcs, _, hl, hm, hmm, hx0, hx⟩
  · obtain rfl : v = .slice none 0 0 := by simpa using hcs
    exact ⟨[], Slc.nil_, by have := bulk_pos x.1; simpa using this⟩
  · obtain rfl : v = .slice (some a) len cap := by simpa using hcs
    have hlm : len ≤ m := by rw [hmm]; split <;> omega
    have hy : ∀ i : Fin len, ∃ y, R w (V i) y ∧ size y ≤ Rows.uptoBulk (D i) := fun i => hR n (V i) _ (hx i (by have := i.isLt; omega)).2
    obtain ⟨f, hf⟩ := Classical.axiomOfChoice hy
    refine ⟨List.ofFn f, ⟨some a, cap, by simp, by simpa using hl, hm, fun e => by (cases e), fun hn => ?_⟩, ?_⟩
    · have h0 := (hx 0 (by simp at hn; omega)).1
      have hs : a.spot = none := by
        have : a.add 0 = a := by simp [Addr.add]
        rw [this] at h0
        unfold World.cell? at h0
        cases hsp : a.spot with
        | none => rfl
        | some _ => rw [hsp] at h0; simp at h0; split at h0 <;> simp_all
      refine ⟨a.block, a.off, by cases a; simp_all, fun i hi => ?_⟩
      have hi' : i < len := by simpa using hi
      refine ⟨V i, ?_, by simpa using (hf ⟨i, hi'⟩).1⟩
      have := (hx i (by omega)).1
      rw [← this]
      unfold Addr.add
      by_cases h0 : i = 0
      · subst h0; simp; cases a; simp_all
      · simp [h0]
    · rw [hx0]
      simp only [Rows.uptoBulk]
      have := bulk_sum size (List.ofFn f) ((List.range len).map D) (by simp) (fun i hi hi' => by simpa using (hf ⟨i, by simpa using hi⟩).2)
      omega

theorem sum_ones {α : Type} (L : List α) : (L.map fun _ => 1).sum = L.length := by
  induction L with
  | nil => rfl
  | cons a L ih => simp only [List.map_cons, List.sum_cons, List.length_cons, ih]; omega
theorem open_bytsB {t e : TypeId} (ht : P.underlying t = some (.slice e)) (hc : P.cellsOf e = 1) (he : P.underlying e = some (.int .u8))
    {fuel : Nat} {v : Value} {x : DataW H × List MemPlace} (h : DataW.trod enc P w base spare held fuel t [v] = some x) : ∃ L, Byts w v L ∧ L.length + 1 ≤ Rows.uptoBulk x.1 := by
  obtain ⟨L, h1, h2⟩ := open_slcB U8 (fun _ => 1) ht hc (fun _ _ x h => let ⟨y, hy⟩ := open_u8 he h; ⟨y, hy, bulk_pos _⟩) h
  exact ⟨L, h1, by rwa [sum_ones] at h2⟩
theorem open_matB {tt t e : TypeId} (htt : P.underlying tt = some (.slice t)) (hct : P.cellsOf t = 1) (ht : P.underlying t = some (.slice e)) (hc : P.cellsOf e = 1) (he : P.underlying e = some (.int .u8))
    {fuel : Nat} {v : Value} {x : DataW H × List MemPlace} (h : DataW.trod enc P w base spare held fuel tt [v] = some x) : ∃ L : List (List UInt8), Mat w v L ∧ (L.map fun a => a.length + 1).sum + 1 ≤ Rows.uptoBulk x.1 :=
  open_slcB Byts (fun a => a.length + 1) htt hct (fun _ _ _ h => open_bytsB ht hc he h) h
end
theorem sum_len (L : List (List UInt8)) : L.length ≤ (L.map fun a => a.length + 1).sum := by
  induction L with
  | nil => simp
  | cons a L ih => simp only [List.map_cons, List.sum_cons, List.length_cons]; omega
theorem sum_part (L : List (List UInt8)) : ∀ a ∈ L, a.length ≤ (L.map fun a => a.length + 1).sum := by
  induction L with
  | nil => intro a h; cases h
  | cons b L ih =>
    intro a h
    simp only [List.map_cons, List.sum_cons]
    rcases List.mem_cons.1 h with rfl | h
    · omega
    · have := ih a h; omega
end Go.Proofs.YtfodkjpjejoemaaDoor
