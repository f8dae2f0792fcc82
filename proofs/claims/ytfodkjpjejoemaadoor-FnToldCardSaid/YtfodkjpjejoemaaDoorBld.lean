/-
  A builder of strings: what the library's contracts give, in this claim's words.
  Conditions: the lengths are bounded.
-/
import Derived.Test.YtfodkjpjejoemaaDoorKey3
import Derived.Test.YtfodkjpjejoemaaDoorShelf
import Derived.Deep.RegionWith
namespace Go.Proofs.YtfodkjpjejoemaaDoor
open Go Go.RowKit

theorem sizeBld : (Tryd.prog.info? 199).map (·.size) = some 2 := by kernel_rfl
theorem liesBld : liesAt Tryd.prog Tryd.prog.depth 199 (2 / Tryd.prog.cellsOf 199) 0 199 1 = true := by kernel_rfl
theorem infoU8 : (Tryd.prog.info? 5).map (fun i => (i.zero, i.size, i.bytes)) = some (some (.int .u8 0), 1, 1) := by kernel_rfl

set_option maxHeartbeats 1000000 in
set_option maxRecDepth 100000 in
theorem copyCheck_used (b : Nat) (w : World) (h0 : w.cell? ⟨b, 0, none⟩ = some (.pointer (some ⟨b, 0, none⟩))) :
    Calls Tryd.prog 156 #[.pointer (some ⟨b, 0, none⟩)] w fun e w' => e = .returned (.tuple #[]) ∧ w' = w := by
  obtain ⟨j, hj, _⟩ := Option.map_eq_some_iff.1 sizeBld
  go_enter Tryd.func156, Tryd.ntmps156
  go_wp2
  rw [Lib.run_neq_ptr_same w _ Tryd.underlying197 hj]
  go_wp2
  go_end0
  exact ⟨rfl, rfl⟩

set_option maxHeartbeats 1000000 in
set_option maxRecDepth 100000 in
theorem copyCheck_fresh (b : Nat) (w : World) (h0 : w.cell? ⟨b, 0, none⟩ = some (.pointer none)) (hsh : w.shape? b = some (199, 2)) (hfz : w.frozen? ⟨b, 0, none⟩ = false) :
    Calls Tryd.prog 156 #[.pointer (some ⟨b, 0, none⟩)] w fun e w' => e = .returned (.tuple #[]) ∧ w' = w.setCell ⟨b, 0, none⟩ (.pointer (some ⟨b, 0, none⟩)) := by
  obtain ⟨j, hj, hjs⟩ := Option.map_eq_some_iff.1 sizeBld
  go_enter Tryd.func156, Tryd.ntmps156
  go_wp2
  rw [Lib.run_to_unsafe w ⟨b, 0, none⟩ Tryd.underlying197 Tryd.underlying213 hj (by rw [hjs]; decide) hsh (Nat.zero_lt_succ 1)]
  simp only [Result.andThen]
  rw [Oper.upon_value]
  go_wp2
  rw [run_callFunc_extern Tryd.func161 (by kernel_rfl) (by kernel_rfl) (by kernel_rfl) (e := Extern.AbiNoEscape.same) (by kernel_rfl)]
  rw [Lib.run_noEscape]
  simp only [Result.andThen]
  rw [Oper.upon_value]
  go_wp2
  rw [Lib.run_from_unsafe w ⟨b, 0, none⟩ Tryd.underlying213 Tryd.underlying197 hj hsh liesBld]
  simp only [Result.andThen]
  rw [Oper.upon_value]
  go_wp2
  go_end0
  exact ⟨rfl, rfl⟩

theorem copyCheck_any (B b : Nat) (bs : List Value) (w : World) (h : Lib.IsBuilder 199 5 B b bs w) :
    Calls Tryd.prog 156 #[.pointer (some ⟨b, 0, none⟩)] w fun e w' => e = .returned (.tuple #[]) ∧ (Lib.BuilderAt 199 5 B b (.pointer (some ⟨b, 0, none⟩)) bs w' ∧ Below B w w') := by
  rcases h with h | h
  · refine (copyCheck_fresh b w h.cell0 h.shape h.frozen0).mono ?_
    rintro e w' ⟨rfl, rfl⟩
    exact ⟨rfl, h.used _, (Below.refl B w).setCell (p := ⟨b, 0, none⟩) h.1 _⟩
  · refine (copyCheck_used b w h.cell0).mono ?_
    rintro e w' ⟨rfl, rfl⟩
    exact ⟨rfl, h, Below.refl B _⟩

set_option maxHeartbeats 2000000 in
set_option maxRecDepth 100000 in
theorem writeByte_own (B b : Nat) (bs : List Value) (c : Int) (w : World) (h : Lib.IsBuilder 199 5 B b bs w) (hlen : bs.length + 1 ≤ 140737488355328) (hBw : B ≤ w.heap.size) :
    Calls Tryd.prog 143 #[.pointer (some ⟨b, 0, none⟩), .int .u8 c] w fun e w' => e = .returned .nilIface ∧ (Lib.BuilderAt 199 5 B b (.pointer (some ⟨b, 0, none⟩)) (bs ++ [.int .u8 c]) w' ∧ Below B w w') := by
  obtain ⟨i0, hi, hz0, hz1, hz2⟩ := info_parts infoU8
  go_enter Tryd.func143, Tryd.ntmps143
  go_wp2_with (go_at_call 156; refine (copyCheck_any B b bs _ h).mono ?_)
  rintro e w1 ⟨rfl, h1, hb1⟩
  obtain ⟨hB, v, hbk, hown, hne⟩ := h1
  have c0 : w1.cell? ⟨b, 0, none⟩ = some (.pointer (some ⟨b, 0, none⟩)) := by rw [Lib.cell_of_heap hbk]; rfl
  have c1 : w1.cell? ⟨b, 1, none⟩ = some v := by rw [Lib.cell_of_heap hbk]; rfl
  go_wp2_with (at_builtin; refine wpList_append_own _ rfl _ _ 22 rfl B 5 i0 (.int .u8 0) 1 1 Tryd.underlying22 hi hz0 hz1 hz2 rfl (by decide) _ _ _ rfl (hown.alloc _) ⟨w1.heap.size, 0, none⟩ 1 1 [.int .u8 c] rfl rfl ?c1 ?c2 ?c3 ?c4 ?c5 ?_)
  case c1 =>
    intro j u hj
    match j, hj with
    | 0, hj => simp at hj; subst hj; simp [Addr.add]
  case c2 => intro u hu; simp at hu; subst hu; rfl
  case c3 => unfold maxLen; omega
  case c4 => omega
  case c5 => have := hb1.size; simp; omega
  intro v' w2 hown' hgrow _
  have hlt : b < w1.heap.size := by
    rcases Nat.lt_or_ge b w1.heap.size with h' | h'
    · exact h'
    · simp [Array.getElem?_eq_none h'] at hbk
  have hb2 : w2.heap[b]? = some (.cells #[.pointer (some ⟨b, 0, none⟩), v] 199 (0, 0)) := by
    rw [hgrow.block b (by simp; omega) (fun e => hne e.symm), Lib.alloc_old w1 _ b hlt]
    exact hbk
  have d0 : w2.cell? ⟨b, 0, none⟩ = some (.pointer (some ⟨b, 0, none⟩)) := by rw [Lib.cell_of_heap hb2]; rfl
  have d1 : w2.cell? ⟨b, 1, none⟩ = some v := by rw [Lib.cell_of_heap hb2]; rfl
  have f1 : w2.frozen? ⟨b, 1, none⟩ = false := Lib.frozen_of_heap hb2 1
  obtain ⟨g, cap, rfl⟩ : ∃ g cap, v' = .slice (some ⟨g, 0, none⟩) (bs.length + 1) cap := by
    rcases hown'.2 with ⟨_, h0⟩ | ⟨g, cap, cur, hv, _⟩
    · omega
    · exact ⟨g, cap, hv⟩
  go_wp2
  go_ret
  refine ⟨rfl, ?_, ?_⟩
  · exact Lib.BuilderAt.put (T := 199) (e := 5) hB hb2 (bs' := bs ++ [.int .u8 c]) (by simpa using hown') (by decide)
  · exact ((hb1.alloc (by have := hb1.size; omega) _).grown hgrow (by have := hb1.size; simp; omega) (fun k hk => (hown.lt k hk).1)).setCell (p := ⟨b, 1, none⟩) hB _

/-- a builder in block b, of the call's own from B on, holds these bytes -/
def Bld (w : World) (B b : Nat) (bs : List UInt8) : Prop := Lib.IsBuilder 199 5 B b (Lib.byteCells bs) w ∧ B ≤ w.heap.size
theorem Kp.then_below {w w1 w2 : World} (h : Keep w w1) (k : Below w.heap.size w1 w2) : Keep w w2 :=
  ⟨k.os.trans h.os, k.tape.trans h.tape, k.output.trans h.output, Nat.le_trans h.size k.size, fun i hi _ => (k.block i hi).trans (h.block i hi (fun x => x))⟩
theorem Bld.drew {w : World} {B b : Nat} {bs : List UInt8} (h : Bld w B b bs) : Bld w.drew B b bs := h
theorem byteCells_length' (bs : List UInt8) : (Lib.byteCells bs).length = bs.length := Lib.byteCells_length bs
theorem byteCells_snoc (bs : List UInt8) (c : UInt8) : Lib.byteCells bs ++ [.int .u8 (c.toNat : Int)] = Lib.byteCells (bs ++ [c]) := by simp [Lib.byteCells]

theorem grow_any (n : Nat) (w : World) (hn : n ≤ 281474976710656) :
    Calls Tryd.prog 142 #[.pointer (some ⟨w.heap.size, 0, none⟩), .int .i64 n] (w.alloc (.cells #[.pointer none, .slice none 0 0] 199)) fun e w' => e = .returned (.tuple #[]) ∧ Bld w' w.heap.size w.heap.size [] ∧ Keep w w' := by
  refine (Tryd.Builder_Grow_fresh w.heap.size w.heap.size n (w.alloc (.cells #[.pointer none, .slice none 0 0] 199)) (Nat.le_refl _) (heap_alloc_new _ _) (by simp) hn).mono ?_
  rintro e w' ⟨rfl, h1, h2⟩
  have hk : Keep w (w.alloc (.cells #[.pointer none, .slice none 0 0] 199)) := (Kp.refl _ _).alloc _
  exact ⟨rfl, ⟨.inr h1, Nat.le_trans hk.size h2.size⟩, hk.then_below h2⟩
theorem wbyte_any (B b : Nat) (bs : List UInt8) (c : UInt8) (w : World) (h : Bld w B b bs) (hl : bs.length ≤ 1099511627776) :
    Calls Tryd.prog 143 #[.pointer (some ⟨b, 0, none⟩), .int .u8 (c.toNat : Int)] w fun e w' => e = .returned .nilIface ∧ Bld w' B b (bs ++ [c]) ∧ Below B w w' := by
  refine (writeByte_own B b _ (c.toNat : Int) w h.1 (by rw [byteCells_length']; omega) h.2).mono ?_
  rintro e w' ⟨rfl, h1, h2⟩
  exact ⟨rfl, ⟨.inr (by rw [← byteCells_snoc]; exact h1), Nat.le_trans h.2 h2.size⟩, h2⟩
theorem bstr_any (B b : Nat) (bs : List UInt8) (w : World) (h : Bld w B b bs) :
    Calls Tryd.prog 144 #[.pointer (some ⟨b, 0, none⟩)] w fun e w' => e = .returned (.string ⟨bs.toArray⟩) ∧ Below B w w' :=
  Tryd.Builder_String_any B b bs w h.1 h.2
theorem prefix_any (s : ByteArray) (w : World) :
    Calls Tryd.prog 90 #[.string s, .string { data := #[120, 58] }] w fun e w' => e = .returned (.bool (Lib.hasPrefix s.data.toList [120, 58])) ∧ w = w' := by
  refine (Tryd.strings_HasPrefix s _ w).mono ?_
  rintro e w' ⟨rfl, rfl⟩
  exact ⟨rfl, rfl⟩
end Go.Proofs.YtfodkjpjejoemaaDoor
