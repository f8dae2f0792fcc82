/-
  FnTold's parts: bits as JSON; texts joined.
  Conditions: the array is known whole; the lengths are bounded.
-/
import Derived.Test.YtfodkjpjejoemaaDoorTold2
import Derived.Test.YtfodkjpjejoemaaDoorBld
import Derived.Test.YtfodkjpjejoemaaDoorApps
import Derived.Laws.Concat
import Derived.Lib.AppendStr
namespace Go.Proofs.YtfodkjpjejoemaaDoor
open Go Go.RowKit
attribute [local go_sem ↓] Go.wp_at_zero Go.wp_at_succ

theorem addS (a b c : ByteArray) (h : c.data.toList = a.data.toList ++ b.data.toList) (hs : a.size + b.size ≤ 9223372036854775807) (w : World) : (Op.stringOp .add (a : ByteArray) b).run Tryd.prog w = .ok (.string c) w := by
  rw [run_string_add_sum w a b hs]
  have e : a ++ b = c := by
    apply ByteArray.ext
    apply Array.toList_inj.1
    rw [h]
    simp [ByteArray.data_append]
  rw [e]
theorem bytesOf (s : ByteArray) (w : World) (hs : s.size ≤ 1099511627776) : ∃ A c w4, (convert 9 22 (.string s)).run Tryd.prog w = .ok (.slice A s.size c) w4 ∧ Keep w w4 ∧ Byts w4 (.slice A s.size c) s.data.toList := by
  refine ⟨_, _, _, run_bytes_of_string w _ _ _ s Tryd.underlying9 Tryd.underlying22 Tryd.underlying5, (Kp.refl _ _).drew.alloc _, ?_⟩
  have hg := grownCap_ge w s.size 0 5
  have hm := grownCap_le_maxLen w s.size 0 5 (by unfold maxLen; omega)
  refine ⟨_, _, by rw [← size_data], by rw [← size_data]; exact hg, hm, (fun e => by cases e), fun _ => ⟨_, 0, rfl, fun i hi => ⟨.int .u8 ((s.data.toList[i]).toNat : Int), ?_, rfl⟩⟩⟩
  rw [Nat.zero_add]
  have hrow : (w.drew.alloc (.cells (bytesRow s (grownCap w s.size 0 5)) 5 ((bytesRow s (grownCap w s.size 0 5)).size, (bytesRow s (grownCap w s.size 0 5)).size + 1))).cell? ⟨w.drew.heap.size, i, none⟩ = _ := World.cell?_alloc_mark _ _ _ _ i
  rw [show w.drew.heap.size = w.heap.size from rfl] at hrow
  rw [hrow, bytesRow_at s _ i (by simpa using hi)]
  simp

theorem marksL_length (L : List Bool) : (marksL L).length = L.length := by simp [marksL]
theorem marksL_take (L : List Bool) (j : Nat) (h : j < L.length) : marksL (L.take (j + 1)) = marksL (L.take j) ++ [if L.getD j false then 120 else 95] := by
  unfold marksL
  rw [take_snoc L j h, List.map_append]
  simp [List.getD, h]

/-- a list's bits as JSON -/
def JsonIs (w : World) (L : List Bool) (e : Ending) : Prop := ∃ v, e = .returned (.tuple #[v, .nilIface]) ∧ Byts w v (34 :: (marksL L ++ [34]))

set_option maxRecDepth 100000 in
set_option maxHeartbeats 2000000 in
theorem marshalJSON_any (b g : Nat) (L : List Bool) (w : World) (h : BA w b g L.length (pack L)) (hn : L.length ≤ 1000000) :
    Calls Tryd.prog 77 #[.pointer (some ⟨b, 0, none⟩)] w fun e w' => JsonIs w' L e ∧ Keep w w' := by
  obtain ⟨c0, c1, c2⟩ := h.cells
  have H := Lib.hid h
  have HMT := Lib.hid (marksL_take L)
  have HML := Lib.hid (marksL_length L)
  obtain ⟨n, hnn⟩ : ∃ n, n = L.length := ⟨_, rfl⟩
  rw [← hnn] at c0 hn H
  have HN := Lib.hid hnn
  clear c1 c2 h hnn
  go_enter Tryd.func77, Tryd.ntmps77
  go_wp2_with fail
  go_loop [4, 5] (fun sv iv => ∃ (j : Nat) (S : ByteArray), j ≤ n ∧ sv = .string S ∧ iv = .int .i64 j ∧ Hid (S.data.toList = 34 :: marksL (L.take j)) ∧ S.size = j + 1) (fun _ iv => n - (intOf iv).toNat)
  case atStart => exact ⟨0, ⟨#[34]⟩, Nat.zero_le _, rfl, rfl, Lib.hid rfl, rfl⟩
  case round =>
    obtain ⟨j, S, hj, rfl, rfl, HS, hz⟩ := hrel
    by_cases hlt : j < n
    · have HG := Lib.hid (getIndex_any b g n (pack L) j w H.out (by omega))
      have HD := Lib.hid (show decide (j < n) = true by simpa using hlt)
      have HB := Lib.hid (bitAt_pack L j)
      obtain ⟨S1, hS1⟩ : ∃ S1 : ByteArray, S1 = ⟨(34 :: (marksL (L.take j) ++ [120])).toArray⟩ := ⟨_, rfl⟩
      obtain ⟨S2, hS2⟩ : ∃ S2 : ByteArray, S2 = ⟨(34 :: (marksL (L.take j) ++ [95])).toArray⟩ := ⟨_, rfl⟩
      have hS1d : S1.data.toList = 34 :: (marksL (L.take j) ++ [120]) := by rw [hS1]
      have hS2d : S2.data.toList = 34 :: (marksL (L.take j) ++ [95]) := by rw [hS2]
      have a1 := addS S { data := #[120] } S1 (by rw [hS1d, HS.out]; rfl) (by have : ({ data := #[120] } : ByteArray).size = 1 := rfl; omega)
      have a2 := addS S { data := #[95] } S2 (by rw [hS2d, HS.out]; rfl) (by have : ({ data := #[95] } : ByteArray).size = 1 := rfl; omega)
      have HT := Lib.hid (HMT.out j (by rw [← HN.out]; exact hlt))
      have hz0 : (marksL (L.take j)).length = j := by rw [marksL_length, List.length_take, ← HN.out]; omega
      have hz1 : S1.size = j + 1 + 1 := by rw [size_data, hS1d]; simp [hz0]
      have hz2 : S2.size = j + 1 + 1 := by rw [size_data, hS2d]; simp [hz0]
      have HS1 := Lib.hid hS1d
      have HS2 := Lib.hid hS2d
      clear hS1 hS2 hS1d hS2d hz0
      cases hv : L.getD j false
      · have HV := Lib.hid hv
        clear hv
        go_wp2_with (go_at_call 105; refine HG.out.mono ?_; rintro e w' ⟨rfl, rfl⟩; rw [HD.out, Bool.true_and, HB.out, HV.out])
        go_round
        case rel => exact ⟨j + 1, S2, hlt, rfl, by go_num, Lib.hid (by rw [HS2.out, HT.out, HV.out]; rfl), hz2⟩
        case measure => simp [intOf]; omega
      · have HV := Lib.hid hv
        clear hv
        go_wp2_with (go_at_call 105; refine HG.out.mono ?_; rintro e w' ⟨rfl, rfl⟩; rw [HD.out, Bool.true_and, HB.out, HV.out])
        go_round
        case rel => exact ⟨j + 1, S1, hlt, rfl, by go_num, Lib.hid (by rw [HS1.out, HT.out, HV.out]; rfl), hz1⟩
        case measure => simp [intOf]; omega
    · obtain rfl : j = n := by omega
      have hall : L.take j = L := List.take_of_length_le (by rw [← HN.out]; exact Nat.le_refl _)
      obtain ⟨T, hT⟩ : ∃ T : ByteArray, T = ⟨(34 :: (marksL L ++ [34])).toArray⟩ := ⟨_, rfl⟩
      have hTd : T.data.toList = 34 :: (marksL L ++ [34]) := by rw [hT]
      have a1 := addS S { data := #[34] } T (by rw [hTd, HS.out, hall]; rfl) (by have : ({ data := #[34] } : ByteArray).size = 1 := rfl; omega)
      have hTz : T.size ≤ 1000003 := by rw [size_data, hTd]; simp [marksL_length, ← HN.out]; omega
      obtain ⟨A, c, w4, hcv, hk4, hby⟩ := bytesOf T w (by omega)
      rw [hTd] at hby
      have HBY := Lib.hid hby
      have HK4 := Lib.hid hk4
      clear hby hk4 hT hTd hall
      go_wp2_with fail
      go_ret2
      exact ⟨⟨_, rfl, HBY.out⟩, HK4.out⟩

set_option maxHeartbeats 2000000 in
set_option maxRecDepth 100000 in
theorem writeString_own (B b : Nat) (bs : List Value) (s : ByteArray) (w : World) (h : Lib.IsBuilder 199 5 B b bs w) (hlen : bs.length + s.size ≤ 140737488355328) (hBw : B ≤ w.heap.size) :
    Calls Tryd.prog 159 #[.pointer (some ⟨b, 0, none⟩), .string s] w fun e w' => e = .returned (.tuple #[.int .i64 s.size, .nilIface]) ∧ (Lib.BuilderAt 199 5 B b (.pointer (some ⟨b, 0, none⟩)) (bs ++ Lib.strCells s) w' ∧ Below B w w') := by
  obtain ⟨i0, hi, hz0, hz1, hz2⟩ := info_parts infoU8
  go_enter Tryd.func159, Tryd.ntmps159
  go_wp2_with (go_at_call 156; refine (copyCheck_any B b bs _ h).mono ?_)
  rintro e w1 ⟨rfl, h1, hb1⟩
  obtain ⟨hB, v, hbk, hown, hne⟩ := h1
  have c0 : w1.cell? ⟨b, 0, none⟩ = some (.pointer (some ⟨b, 0, none⟩)) := by rw [Lib.cell_of_heap hbk]; rfl
  have c1 : w1.cell? ⟨b, 1, none⟩ = some v := by rw [Lib.cell_of_heap hbk]; rfl
  go_wp2_with (at_builtin; refine Lib.wpList_append_own_string _ rfl _ _ 22 9 rfl B 5 i0 Tryd.underlying22 Tryd.underlying9 hi hz0 hz1 hz2 _ _ _ rfl hown s rfl ?c3 ?c4 ?c5 ?_)
  case c3 => unfold maxLen; omega
  case c4 => omega
  case c5 => have := hb1.size; omega
  intro v' w2 hown' hgrow _
  have hlt : b < w1.heap.size := by
    rcases Nat.lt_or_ge b w1.heap.size with h' | h'
    · exact h'
    · simp [Array.getElem?_eq_none h'] at hbk
  have hb2 : w2.heap[b]? = some (.cells #[.pointer (some ⟨b, 0, none⟩), v] 199 (0, 0)) := by
    rw [hgrow.block b hlt (fun e => hne e.symm)]
    exact hbk
  have d0 : w2.cell? ⟨b, 0, none⟩ = some (.pointer (some ⟨b, 0, none⟩)) := by rw [Lib.cell_of_heap hb2]; rfl
  have d1 : w2.cell? ⟨b, 1, none⟩ = some v := by rw [Lib.cell_of_heap hb2]; rfl
  have f1 : w2.frozen? ⟨b, 1, none⟩ = false := Lib.frozen_of_heap hb2 1
  obtain ⟨ao, n', cap, rfl⟩ : ∃ ao n' cap, v' = .slice ao n' cap := by
    rcases hown'.2 with ⟨hv, _⟩ | ⟨g, cap, cur, hv, _⟩
    · exact ⟨_, _, _, hv⟩
    · exact ⟨_, _, _, hv⟩
  go_wp2
  go_ret2
  refine ⟨rfl, ?_, ?_⟩
  · exact Lib.BuilderAt.put (T := 199) (e := 5) hB hb2 (bs' := bs ++ Lib.strCells s) (by simpa [Lib.strCells_length] using hown') (by decide)
  · exact (hb1.grown hgrow (by have := hb1.size; omega) (fun k hk => (hown.lt k hk).1)).setCell (p := ⟨b, 1, none⟩) hB _
theorem strCells_of (s : ByteArray) : Lib.strCells s = Lib.byteCells s.data.toList := by
  first | rfl | simp [Lib.strCells, Lib.byteCells]
theorem wstr_any (B b : Nat) (bs : List UInt8) (s : ByteArray) (w : World) (h : Bld w B b bs) (hl : bs.length + s.size ≤ 1099511627776) :
    Calls Tryd.prog 159 #[.pointer (some ⟨b, 0, none⟩), .string s] w fun e w' => e = .returned (.tuple #[.int .i64 s.size, .nilIface]) ∧ Bld w' B b (bs ++ s.data.toList) ∧ Below B w w' := by
  refine (writeString_own B b _ s w h.1 (by rw [byteCells_length']; omega) h.2).mono ?_
  rintro e w' ⟨rfl, h1, h2⟩
  refine ⟨rfl, ⟨.inr ?_, Nat.le_trans h.2 h2.size⟩, h2⟩
  rw [strCells_of] at h1
  simpa [Lib.byteCells] using h1
end Go.Proofs.YtfodkjpjejoemaaDoor
