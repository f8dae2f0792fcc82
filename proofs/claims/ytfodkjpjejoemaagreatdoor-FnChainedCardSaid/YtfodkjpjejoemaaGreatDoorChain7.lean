
/-
  Chains: the runtime that decodes operations.
  Conditions: the operations read as keys and well-formed proofs.
-/
import Derived.Test.YtfodkjpjejoemaaGreatDoorChain6
import Derived.WideMake
namespace Go.Proofs.YtfodkjpjejoemaaGreatDoor
open Go Go.RowKit
attribute [local go_sem ↓] Go.wp_at_zero Go.wp_at_succ

section
variable {P : Program} {w : World} {t kt et : TypeId} {r clock : Nat}
theorem look_none (s : ByteArray) (z : Value) (ht : P.underlying t = some (.map kt et)) (hk : P.underlying kt = some .string) (hz : ∀ w, (zeroValue et).run P w = .ok z w) (hb : w.heap[r]? = some (.map #[] clock)) :
    (Instr.lookup t (.map (some r)) (.string s) true).run P w = .ok (.tuple #[z, .bool false]) w := by
  have hf : Instr.findNow .string (.string s) ([] : List MapEntry) 0 = some none := rfl
  have hc : (Instr.checkKey true 10000 kt (.string s)).run P w = .ok () w := MapKept.run_checkKey (k := .string s) hk (by simp [MapKept.IsKey]) true 9999
  simp [Instr.lookup, run_underlying ht, MapKept.run_getObj_map hb, hc, MapKept.run_findKey hk hf, hz, Result.andThen]
theorem look_one (s : ByteArray) (v : Value) (n : Nat) (ht : P.underlying t = some (.map kt et)) (hk : P.underlying kt = some .string) (hb : w.heap[r]? = some (.map #[{ key := .string s, val := v, born := n }] clock)) :
    (Instr.lookup t (.map (some r)) (.string s) false).run P w = .ok v w := by
  have hf : Instr.findNow .string (.string s) [({ key := .string s, val := v, born := n } : MapEntry)] 0 = some (some (0, v)) := by
    have he : (s == s) = true := (MapKept.bytes_beq s s).2 rfl
    simp [Instr.findNow, Instr.sameNow, he]
  have hc : (Instr.checkKey false 10000 kt (.string s)).run P w = .ok () w := MapKept.run_checkKey (k := .string s) hk (by simp [MapKept.IsKey]) false 9999
  simp [Instr.lookup, run_underlying ht, MapKept.run_getObj_map hb, hc, MapKept.run_findKey hk hf, Result.andThen]
end

/-- the value of the decoder -/
abbrev decV : Value := .func (.func 48) #[] #[]
/-- a runtime that knows one decoder -/
def RtAt (w : World) (br : Nat) : Prop := ∃ bm, w.cell? ⟨br, 0, none⟩ = some (.map (some bm)) ∧ w.heap[bm]? = some (.map #[{ key := (.string ⟨#[115, 105, 109, 112, 108, 101, 58, 118]⟩), val := decV, born := 0 }] 1)
theorem RtAt.keep {w w' : World} {br : Nat} (h : RtAt w br) (k : Keep w w') : RtAt w' br := by
  obtain ⟨bm, h1, h2⟩ := h
  have hl : bm < w.heap.size := (Array.getElem?_eq_some_iff.1 h2).1
  exact ⟨bm, k.cell_of h1 (fun x => x), (k.block bm hl (fun x => x)).trans h2⟩

theorem newRt_any (w : World) :
    Calls Tryz.prog 46 #[] w fun e w' => e = .returned (.pointer (some ⟨w.heap.size + 1, 0, none⟩)) ∧ w' = (w.alloc (.map #[] 0)).alloc (.cells #[.map (some w.heap.size)] 126) := by
  have hmm := @run_makeMap Tryz.prog
  go_enter Tryz.func46, Tryz.ntmps46
  go_wp2
  go_ret
  exact ⟨rfl, rfl⟩

theorem zeroFn (w : World) : (zeroValue 127).run Tryz.prog w = .ok .nilFunc w := by kernel_rfl

set_option maxHeartbeats 1000000 in
theorem putName_any (br bm : Nat) (w : World) (h0 : w.cell? ⟨br, 0, none⟩ = some (.map (some bm))) (h1 : w.heap[bm]? = some (.map #[] 0)) :
    Calls Tryz.prog 47 #[.pointer (some ⟨br, 0, none⟩), (.string ⟨#[115, 105, 109, 112, 108, 101, 58, 118]⟩), decV] w fun e w' => e = .returned (.tuple #[]) ∧ w' = { w with heap := w.heap.setIfInBounds bm (.map #[{ key := (.string ⟨#[115, 105, 109, 112, 108, 101, 58, 118]⟩), val := decV, born := 0 }] 1) } := by
  have q1 := look_none (P := Tryz.prog) (w := w) ⟨#[115, 105, 109, 112, 108, 101, 58, 118]⟩ .nilFunc Tryz.underlying124 Tryz.underlying9 zeroFn h1
  have q2 := run_mapUpdate_first (P := Tryz.prog) w 124 9 127 bm 0 ⟨#[115, 105, 109, 112, 108, 101, 58, 118]⟩ decV Tryz.underlying124 Tryz.underlying9 h1
  have hb := World.block_lt_of_cell? w _ h0
  simp only at hb
  go_enter Tryz.func47, Tryz.ntmps47
  go_wp2_with fail
  go_end0
  exact ⟨rfl, rfl⟩

set_option maxHeartbeats 1000000 in
theorem runtime_any (w : World) :
    Calls Tryz.prog 38 #[] w fun e w' => (∃ br, e = .returned (.pointer (some ⟨br, 0, none⟩)) ∧ RtAt w' br) ∧ Keep w w' := by
  obtain ⟨b, hb⟩ : ∃ b, b = w.heap.size := ⟨_, rfl⟩
  obtain ⟨w1, hw1⟩ : ∃ w1, w1 = (w.alloc (.map #[] 0)).alloc (.cells #[.map (some b)] 126) := ⟨_, rfl⟩
  have h0 : w1.cell? ⟨b + 1, 0, none⟩ = some (.map (some b)) := by rw [hw1, hb]; simp
  have h1 : w1.heap[b]? = some (.map #[] 0) := by
    rw [hw1, Below.heap_alloc _ _ _ (by rw [hb]; simp), hb]; exact heap_alloc_new _ _
  have hk1 : Keep w w1 := by rw [hw1]; exact ((Kp.refl _ _).alloc _).alloc _
  have HB := Lib.hid hb
  have HW1 := Lib.hid hw1
  have H0 := Lib.hid h0
  have H1 := Lib.hid h1
  have HK1 := Lib.hid hk1
  clear hb hw1 h0 h1 hk1
  go_enter Tryz.func38, Tryz.ntmps38
  go_wp2_with (first
    | (go_at_call 46
       refine (newRt_any _).mono ?_
       rintro e w9 ⟨rfl, rfl⟩
       rw [← HB.out, ← HW1.out])
    | (go_at_call 47
       refine (putName_any _ b _ H0.out H1.out).mono ?_
       rintro e w9 ⟨rfl, rfl⟩))
  go_ret
  have hlt := (Array.getElem?_eq_some_iff.1 H1.out).1
  have hk2 : Kp (fun i => i = b) w1 { w1 with heap := w1.heap.setIfInBounds b (.map #[{ key := (.string ⟨#[115, 105, 109, 112, 108, 101, 58, 118]⟩), val := decV, born := 0 }] 1) } :=
    ⟨rfl, rfl, rfl, by simp, fun i hi hne => (MapKept.heap_set H1.out).2 i hne⟩
  refine ⟨⟨b + 1, rfl, b, ?_, (MapKept.heap_set H1.out).1⟩, HK1.out.trans' hk2 (fun i hi e => by have := HB.out; omega)⟩
  exact hk2.cell_of H0.out (fun e => by simp at e)
end Go.Proofs.YtfodkjpjejoemaaGreatDoor
