/-
  Slicing a slice that reads as a list: x[k:], x[:m], x[k:m] as run equations whose values hide the question whether anything is left of the capacity; a slice of bytes as a string.
  Conditions: none (laws).
-/
import Derived.Test.YtfodkjpjejoemaaDoorApp
import Derived.Lib.SlBytesRow
namespace Go.Proofs.YtfodkjpjejoemaaDoor
open Go Go.RowKit

section
variable {P : Program} {α : Type} {R : World → Value → α → Prop} {t e : TypeId} {w : World} {A : Option Addr} {n c : Nat} {L : List α}
theorem slc_from (ht : P.underlying t = some (.slice e)) (hz : ∀ w, (Go.sizeOf e).run P w = .ok 1 w) (h : Slc R w (.slice A n c) L) (k : Nat) (hk : k ≤ L.length) :
    ∃ A' c', (∀ (w' : World), (Instr.slice t (.slice A n c) (some (.int .i64 (k : Int))) none none).run P w' = .ok (.slice A' (n - k) c') w') ∧ ∀ w', Slc R w' (.slice A n c) L → Slc R w' (.slice A' (n - k) c') (L.drop k) := by
  have ht' : P.underlying t = some (.slice (P.elem t)) := by simp [Program.elem, ht]
  have he : P.elem t = e := by simp [Program.elem, ht]
  have hn : n = L.length := h.of_eq.1
  refine ⟨_, _, fun w' => ?_, fun _ h => h.drop_ k hk⟩
  rw [run_slice_l w' t _ _ _ ht' .i64 _ (by omega) (by omega), he, hz]
  simp [Result.andThen, sliced]
theorem slc_to (ht : P.underlying t = some (.slice e)) (hz : ∀ w, (Go.sizeOf e).run P w = .ok 1 w) (h : Slc R w (.slice A n c) L) (m : Nat) (hm : m ≤ L.length) :
    ∃ A' c', (∀ (w' : World), (Instr.slice t (.slice A n c) none (some (.int .i64 (m : Int))) none).run P w' = .ok (.slice A' m c') w') ∧ ∀ w', Slc R w' (.slice A n c) L → Slc R w' (.slice A' m c') (L.take m) := by
  have ht' : P.underlying t = some (.slice (P.elem t)) := by simp [Program.elem, ht]
  have he : P.elem t = e := by simp [Program.elem, ht]
  obtain ⟨hn, h1, h2, h3, h4⟩ := h.of_eq
  refine ⟨A, c, fun w' => ?_, fun _ h => h.take_ m hm⟩
  rw [run_slice_h w' t _ _ _ ht' .i64 _ (by omega) (by omega), he, hz]
  by_cases h0 : c = 0
  · subst h0; simp [Result.andThen, sliced]
  · cases A with
    | none => exact absurd (h3 rfl) h0
    | some a => simp [Result.andThen, sliced, Addr.add]
theorem slc_of (ht : P.underlying t = some (.slice e)) (hz : ∀ w, (Go.sizeOf e).run P w = .ok 1 w) (h : Slc R w (.slice A n c) L) (k m : Nat) (hk : k ≤ m) (hm : m ≤ L.length) :
    ∃ A' c', (∀ (w' : World), (Instr.slice t (.slice A n c) (some (.int .i64 (k : Int))) (some (.int .i64 (m : Int))) none).run P w' = .ok (.slice A' (m - k) c') w') ∧ ∀ w', Slc R w' (.slice A n c) L → Slc R w' (.slice A' (m - k) c') ((L.take m).drop k) := by
  have ht' : P.underlying t = some (.slice (P.elem t)) := by simp [Program.elem, ht]
  have he : P.elem t = e := by simp [Program.elem, ht]
  obtain ⟨hn, h1, h2, h3, h4⟩ := h.of_eq
  refine ⟨_, _, fun w' => ?_, fun _ h => (h.take_ m hm).drop_ k (by simp; omega)⟩
  rw [run_slice_lh w' t _ _ _ ht' .i64 .i64 _ _ (by omega) (by omega) (by omega), he, hz]
  simp [Result.andThen, sliced]
end

theorem toArray_size' (bs : List UInt8) : (⟨bs.toArray⟩ : ByteArray).size = bs.length := by simp [ByteArray.size]
theorem byts_bytes {w : World} {b o : Nat} {bs : List UInt8} (h : ∀ i (hi : i < bs.length), ∃ u, w.cell? ⟨b, o + i, none⟩ = some u ∧ U8 w u bs[i]) : Lib.Bytes w b o ⟨bs.toArray⟩ := by
  intro i hi
  have hi' : i < bs.length := by simpa [ByteArray.size] using hi
  obtain ⟨u, hu, hr⟩ := h i hi'
  rw [hu, hr]
  rfl
/-- string(b), b a slice of bytes: whatever its address -/
theorem byts_string {P : Program} {src e dst : TypeId} (hs : P.underlying src = some (.slice e)) (he : P.underlying e = some (.int .u8)) (hd : P.underlying dst = some .string) {w : World} {A : Option Addr} {n c : Nat} {bs : List UInt8} (h : Byts w (.slice A n c) bs) :
    (convert src dst (.slice A n c)).run P w = .ok (.string ⟨bs.toArray⟩) w := by
  obtain ⟨rfl, h1, h2, h3, h4⟩ := h.of_eq
  by_cases h0 : bs.length = 0
  · obtain rfl : bs = [] := List.eq_nil_of_length_eq_zero h0
    rw [run_convert_bytes_string w src dst e A _ c hs he hd]
    cases A with
    | none => simp [Conv.bytesToString]; rfl
    | some a => rw [run_bytesToString w a _ c [] (by simpa using run_loadCells_list (P := P) w a [] (fun j v hj => by simp at hj))]; rfl
  · obtain ⟨b, off, rfl, hc⟩ := h4 (by omega)
    have := Lib.run_convert_whole (P := P) w src e dst hs he hd b off ⟨bs.toArray⟩ (byts_bytes hc) c
    rw [toArray_size'] at this
    exact this
end Go.Proofs.YtfodkjpjejoemaaDoor
