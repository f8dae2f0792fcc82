
/-
  A builder of strings: what the library's contracts give, in this claim's words.
  Conditions: the lengths are bounded.
-/
import Derived.Test.YtfodkjpjejoemaaGreatDoorZo
import Derived.Test.YtfodkjpjejoemaaGreatDoorShelf
import Derived.Deep.RegionWith
namespace Go.Proofs.YtfodkjpjejoemaaGreatDoor
open Go Go.RowKit

theorem sizeBld : (Tryz.prog.info? 186).map (·.size) = some 2 := by kernel_rfl
theorem liesBld : liesAt Tryz.prog Tryz.prog.depth 186 (2 / Tryz.prog.cellsOf 186) 0 186 1 = true := by kernel_rfl
theorem infoU8 : (Tryz.prog.info? 5).map (fun i => (i.zero, i.size, i.bytes)) = some (some (.int .u8 0), 1, 1) := by kernel_rfl

set_option maxHeartbeats 1000000 in
set_option maxRecDepth 100000 in
theorem copyCheck_used (b : Nat) (w : World) (h0 : w.cell? ⟨b, 0, none⟩ = some (.pointer (some ⟨b, 0, none⟩))) :
    Calls Tryz.prog 101 #[.pointer (some ⟨b, 0, none⟩)] w fun e w' => e = .returned (.tuple #[]) ∧ w' = w := by
  obtain ⟨j, hj, _⟩ := Option.map_eq_some_iff.1 sizeBld
  go_enter Tryz.func101, Tryz.ntmps101
  go_wp2
  rw [Lib.run_neq_ptr_same w _ Tryz.underlying184 hj]
  go_wp2
  go_end0
  exact ⟨rfl, rfl⟩

set_option maxHeartbeats 1000000 in
set_option maxRecDepth 100000 in
theorem copyCheck_fresh (b : Nat) (w : World) (h0 : w.cell? ⟨b, 0, none⟩ = some (.pointer none)) (hsh : w.shape? b = some (186, 2)) (hfz : w.frozen? ⟨b, 0, none⟩ = false) :
    Calls Tryz.prog 101 #[.pointer (some ⟨b, 0, none⟩)] w fun e w' => e = .returned (.tuple #[]) ∧ w' = w.setCell ⟨b, 0, none⟩ (.pointer (some ⟨b, 0, none⟩)) := by
  obtain ⟨j, hj, hjs⟩ := Option.map_eq_some_iff.1 sizeBld
  go_enter Tryz.func101, Tryz.ntmps101
  go_wp2
  rw [Lib.run_to_unsafe w ⟨b, 0, none⟩ Tryz.underlying184 Tryz.underlying193 hj (by rw [hjs]; decide) hsh (Nat.zero_lt_succ 1)]
  simp only [Result.andThen]
  rw [Oper.upon_value]
  go_wp2
  rw [run_callFunc_extern Tryz.func104 (by kernel_rfl) (by kernel_rfl) (by kernel_rfl) (e := Extern.AbiNoEscape.same) (by kernel_rfl)]
  rw [Lib.run_noEscape]
  simp only [Result.andThen]
  rw [Oper.upon_value]
  go_wp2
  rw [Lib.run_from_unsafe w ⟨b, 0, none⟩ Tryz.underlying193 Tryz.underlying184 hj hsh liesBld]
  simp only [Result.andThen]
  rw [Oper.upon_value]
  go_wp2
  go_end0
  exact ⟨rfl, rfl⟩

theorem copyCheck_any (B b : Nat) (bs : List Value) (w : World) (h : Lib.IsBuilder 186 5 B b bs w) :
    Calls Tryz.prog 101 #[.pointer (some ⟨b, 0, none⟩)] w fun e w' => e = .returned (.tuple #[]) ∧ (Lib.BuilderAt 186 5 B b (.pointer (some ⟨b, 0, none⟩)) bs w' ∧ Below B w w') := by
  rcases h with h | h
  · refine (copyCheck_fresh b w h.cell0 h.shape h.frozen0).mono ?_
    rintro e w' ⟨rfl, rfl⟩
    exact ⟨rfl, h.used _, (Below.refl B w).setCell (p := ⟨b, 0, none⟩) h.1 _⟩
  · refine (copyCheck_used b w h.cell0).mono ?_
    rintro e w' ⟨rfl, rfl⟩
    exact ⟨rfl, h, Below.refl B _⟩

set_option maxHeartbeats 2000000 in
set_option maxRecDepth 100000 in
theorem writeByte_own (B b : Nat) (bs : List Value) (c : Int) (w : World) (h : Lib.IsBuilder 186 5 B b bs w) (hlen : bs.length + 1 ≤ 140737488355328) (hBw : B ≤ w.heap.size) :
    Calls Tryz.prog 96 #[.pointer (some ⟨b, 0, none⟩), .int .u8 c] w fun e w' => e = .returned .nilIface ∧ (Lib.BuilderAt 186 5 B b (.pointer (some ⟨b, 0, none⟩)) (bs ++ [.int .u8 c]) w' ∧ Below B w w') := by
  obtain ⟨i0, hi, hz0, hz1, hz2⟩ := info_parts infoU8
  go_enter Tryz.func96, Tryz.ntmps96
  go_wp2_with (go_at_call 101; refine (copyCheck_any B b bs _ h).mono ?_)
  rintro e w1 ⟨rfl, h1, hb1⟩
  obtain ⟨hB, v, hbk, hown, hne⟩ := h1
  have c0 : w1.cell? ⟨b, 0, none⟩ = some (.pointer (some ⟨b, 0, none⟩)) := by rw [Lib.cell_of_heap hbk]; rfl
  have c1 : w1.cell? ⟨b, 1, none⟩ = some v := by rw [Lib.cell_of_heap hbk]; rfl
  go_wp2_with (at_builtin; refine wpList_append_own _ rfl _ _ 24 rfl B 5 i0 (.int .u8 0) 1 1 Tryz.underlying24 hi hz0 hz1 hz2 rfl (by decide) _ _ _ rfl (hown.alloc _) ⟨w1.heap.size, 0, none⟩ 1 1 [.int .u8 c] rfl rfl ?c1 ?c2 ?c3 ?c4 ?c5 ?_)
  case c1 =>
    intro j u hj
    match j, hj with
    | 0, hj => simp at hj; subst hj; simp [Addr.add]
  case c2 => intro u hu; simp at hu; subst hu; rfl
  case c3 => unfold maxLen; omega
  case c4 => omega
  case c5 => have := hb1.size; simp; omega
  intro v' w2 hown' hgrow _
  have hlt : b < w1.heap.size := by
    rcases Nat.lt_or_ge b w1.heap.size with h' | h'
    · exact h'
    · simp [Array.getElem?_eq_none h'] at hbk
  have hb2 : w2.heap[b]? = some (.cells #[.pointer (some ⟨b, 0, none⟩), v] 186 (0, 0)) := by
    rw [hgrow.block b (by simp; omega) (fun e => hne e.symm), Lib.alloc_old w1 _ b hlt]
    exact hbk
  have d0 : w2.cell? ⟨b, 0, none⟩ = some (.pointer (some ⟨b, 0, none⟩)) := by rw [Lib.cell_of_heap hb2]; rfl
  have d1 : w2.cell? ⟨b, 1, none⟩ = some v := by rw [Lib.cell_of_heap hb2]; rfl
  have f1 : w2.frozen? ⟨b, 1, none⟩ = false := Lib.frozen_of_heap hb2 1
  obtain ⟨g, cap, rfl⟩ : ∃ g cap, v' = .slice (some ⟨g, 0, none⟩) (bs.length + 1) cap := by
    rcases hown'.2 with ⟨_, h0⟩ | ⟨g, cap, cur, hv, _⟩
    · omega
    · exact ⟨g, cap, hv⟩
  go_wp2
  go_ret
  refine ⟨rfl, ?_, ?_⟩
  · exact Lib.BuilderAt.put (T := 186) (e := 5) hB hb2 (bs' := bs ++ [.int .u8 c]) (by simpa using hown') (by decide)
  · exact ((hb1.alloc (by have := hb1.size; omega) _).grown hgrow (by have := hb1.size; simp; omega) (fun k hk => (hown.lt k hk).1)).setCell (p := ⟨b, 1, none⟩) hB _

/-- a builder in block b, of the call's own from B on, holds these bytes -/
def Bld (w : World) (B b : Nat) (bs : List UInt8) : Prop := Lib.IsBuilder 186 5 B b (Lib.byteCells bs) w ∧ B ≤ w.heap.size
theorem Kp.then_below {w w1 w2 : World} (h : Keep w w1) (k : Below w.heap.size w1 w2) : Keep w w2 :=
  ⟨k.os.trans h.os, k.tape.trans h.tape, k.output.trans h.output, Nat.le_trans h.size k.size, fun i hi _ => (k.block i hi).trans (h.block i hi (fun x => x))⟩
theorem Bld.drew {w : World} {B b : Nat} {bs : List UInt8} (h : Bld w B b bs) : Bld w.drew B b bs := h
theorem byteCells_length' (bs : List UInt8) : (Lib.byteCells bs).length = bs.length := Lib.byteCells_length bs
theorem byteCells_snoc (bs : List UInt8) (c : UInt8) : Lib.byteCells bs ++ [.int .u8 (c.toNat : Int)] = Lib.byteCells (bs ++ [c]) := by simp [Lib.byteCells]

theorem grow_any (n : Nat) (w : World) (hn : n ≤ 281474976710656) :
    Calls Tryz.prog 95 #[.pointer (some ⟨w.heap.size, 0, none⟩), .int .i64 n] (w.alloc (.cells #[.pointer none, .slice none 0 0] 186)) fun e w' => e = .returned (.tuple #[]) ∧ Bld w' w.heap.size w.heap.size [] ∧ Keep w w' := by
  refine (Tryz.Builder_Grow_fresh w.heap.size w.heap.size n (w.alloc (.cells #[.pointer none, .slice none 0 0] 186)) (Nat.le_refl _) (heap_alloc_new _ _) (by simp) hn).mono ?_
  rintro e w' ⟨rfl, h1, h2⟩
  have hk : Keep w (w.alloc (.cells #[.pointer none, .slice none 0 0] 186)) := (Kp.refl _ _).alloc _
  exact ⟨rfl, ⟨.inr h1, Nat.le_trans hk.size h2.size⟩, hk.then_below h2⟩
theorem wbyte_any (B b : Nat) (bs : List UInt8) (c : UInt8) (w : World) (h : Bld w B b bs) (hl : bs.length ≤ 1099511627776) :
    Calls Tryz.prog 96 #[.pointer (some ⟨b, 0, none⟩), .int .u8 (c.toNat : Int)] w fun e w' => e = .returned .nilIface ∧ Bld w' B b (bs ++ [c]) ∧ Below B w w' := by
  refine (writeByte_own B b _ (c.toNat : Int) w h.1 (by rw [byteCells_length']; omega) h.2).mono ?_
  rintro e w' ⟨rfl, h1, h2⟩
  exact ⟨rfl, ⟨.inr (by rw [← byteCells_snoc]; exact h1), Nat.le_trans h.2 h2.size⟩, h2⟩
theorem bstr_any (B b : Nat) (bs : List UInt8) (w : World) (h : Bld w B b bs) :
    Calls Tryz.prog 97 #[.pointer (some ⟨b, 0, none⟩)] w fun e w' => e = .returned (.string ⟨bs.toArray⟩) ∧ Below B w w' :=
  Tryz.Builder_String_any B b bs w h.1 h.2
theorem prefix_any (s : ByteArray) (w : World) :
    Calls Tryz.prog 81 #[.string s, .string { data := #[120, 58] }] w fun e w' => e = .returned (.bool (Lib.hasPrefix s.data.toList [120, 58])) ∧ w = w' := by
  refine (Tryz.strings_HasPrefix s _ w).mono ?_
  rintro e w' ⟨rfl, rfl⟩
  exact ⟨rfl, rfl⟩
end Go.Proofs.YtfodkjpjejoemaaGreatDoor

/-
  The keys of a path: net/url's unescape walked, for a path's segment.
  Conditions: the table's cells hold its numbers; the length is bounded.
-/
namespace Go.Proofs.YtfodkjpjejoemaaGreatDoor
open Go Go.RowKit
attribute [local go_sem ↓] Go.wp_at_zero Go.wp_at_succ

theorem idx_data (s : ByteArray) (k : Nat) (h : k < s.size) (w : World) : (Instr.index 9 (.string s) (.int .i64 (k : Int))).run Tryz.prog w = .ok (.int .u8 (((s.data.toList[k]'(by rw [← size_data]; exact h)).toNat : Nat) : Int)) w := by
  rw [run_index_string w _ s .i64 k Tryz.underlying9, dif_pos ⟨by omega, by omega⟩]
  simp only [Int.toNat_natCast]
  rw [at_data s k h]

/-- what unescape gives: the bytes, or an error -/
def EndsU (r : Option (List UInt8)) (e : Ending) : Prop :=
  match r with
  | some k => e = .returned (.tuple #[strV k, .nilIface])
  | none => ∃ sv t x, e = .returned (.tuple #[.string sv, .iface t x])

set_option maxRecDepth 100000 in
set_option maxHeartbeats 4000000 in
theorem unescape_any (s : ByteArray) (w : World) (ht : UTab w) (hs : s.size ≤ 1099511627776) :
    Calls Tryz.prog 90 #[.string s, .int .u8 2] w fun e w' => EndsU (unesc s.data.toList) e ∧ Keep w w' := by
  obtain ⟨L, hL⟩ : ∃ L, L = s.data.toList := ⟨_, rfl⟩
  obtain ⟨N, hN⟩ : ∃ N, N = s.size := ⟨_, rfl⟩
  have hLN : L.length = N := by rw [hL, hN, size_data]
  rw [← hL]
  rw [← hN] at hs
  have HT := Lib.hid ht
  have HL := Lib.hid hL
  have HN := Lib.hid hN
  have HLN := Lib.hid hLN
  have HI : Hid (∀ (k : Nat) (h : k < L.length) (w : World), (Instr.index 9 (.string s) (.int .i64 (k : Int))).run Tryz.prog w = .ok (.int .u8 ((L[k].toNat : Nat) : Int)) w) := Lib.hid fun k h w => by
    subst hL
    exact idx_data s k (by rw [size_data]; exact h) w
  clear ht hL hN
  go_enter Tryz.func90, Tryz.ntmps90
  go_wp2_with fail
  go_loopw [0, 6, 7, 8] (fun sv nv pv iv wr => ∃ (i n : Nat) (K : List UInt8), i ≤ N ∧ sv = .string s ∧ nv = .int .i64 n ∧ pv = .bool false ∧ iv = .int .i64 i ∧ Goes (unesc L) K (unesc (L.drop i)) ∧ K.length + 2 * n = i ∧ (n = 0 → K = L.take i) ∧ w = wr) (fun _ _ _ iv _ => N - (intOf iv).toNat)
  case atStart => exact ⟨0, 0, [], Nat.zero_le _, rfl, rfl, rfl, rfl, by simpa using Goes.start _, rfl, fun _ => by simp, rfl⟩
  case round =>
    obtain ⟨i, n, K, hi, rfl, rfl, rfl, rfl, hg, hkl, hk0, rfl⟩ := hrel
    have HG := Lib.hid hg
    have HK0 := Lib.hid hk0
    have hsz : s.size = N := HN.out.symm
    clear hg hk0
    by_cases hlt : i < N
    · have hil : i < L.length := by omega
      have hx := HI.out i hil
      obtain ⟨c, hc⟩ : ∃ c, c = L[i] := ⟨_, rfl⟩
      rw [← hc] at hx
      have hdr := drop_at L i hil
      rw [← hc] at hdr
      have HDR := Lib.hid hdr
      clear hdr
      by_cases h37 : c = 37
      · subst h37
        replace hx : ∀ (w : World), (Instr.index 9 (.string s) (.int .i64 (i : Int))).run Tryz.prog w = .ok (.int .u8 37) w := hx
        by_cases h2 : i + 2 < N
        · have hn2 : ¬ (N : Int) ≤ (i : Int) + 2 := by omega
          have hxa := HI.out (i + 1) (by omega)
          have hxb := HI.out (i + 2) (by omega)
          obtain ⟨a, ha⟩ : ∃ a, a = L[i + 1]'(by omega) := ⟨_, rfl⟩
          obtain ⟨b, hb⟩ : ∃ b, b = L[i + 2]'(by omega) := ⟨_, rfl⟩
          rw [← ha] at hxa
          rw [← hb] at hxb
          have hd1 := drop_at L (i + 1) (by omega)
          have hd2 := drop_at L (i + 2) (by omega)
          rw [← ha] at hd1
          rw [← hb] at hd2
          have hdd : L.drop i = 37 :: a :: b :: L.drop (i + 3) := by rw [HDR.out, hd1, hd2]
          have HDD := Lib.hid hdd
          have hal := a.toNat_lt
          have hbl := b.toNat_lt
          obtain ⟨A, hA⟩ : ∃ A, A = a.toNat := ⟨_, rfl⟩
          obtain ⟨B, hB⟩ : ∃ B, B = b.toNat := ⟨_, rfl⟩
          rw [← hA] at hxa hal
          rw [← hB] at hxb hbl
          have hda : dg a = dgN A := by unfold dg; rw [hA]
          have hdb : dg b = dgN B := by unfold dg; rw [hB]
          have HDA := Lib.hid hda
          have HDB := Lib.hid hdb
          replace hxa : ∀ (w : World), (Instr.index 9 (.string s) (.int .i64 ((i : Int) + 1))).run Tryz.prog w = .ok (.int .u8 (A : Int)) w := hxa
          replace hxb : ∀ (w : World), (Instr.index 9 (.string s) (.int .i64 ((i : Int) + 2))).run Tryz.prog w = .ok (.int .u8 (B : Int)) w := hxb
          clear hd1 hd2 hdd ha hb hA hB hda hdb hc
          by_cases hna : dgN A < 0
          · have hfa : decide (0 ≤ dgN A) = false := by simp; omega
            have HFA := Lib.hid hfa
            have hbad : unesc (L.drop i) = none := by rw [HDD.out]; exact unesc_bad _ _ _ (.inl (by rw [HDA.out]; exact hna))
            have HBAD := Lib.hid (HG.out.fail hbad)
            clear hfa hbad hna
            go_wp2_with (go_at_call 93
                         refine (ishex_any A _ (by omega) HT.out).mono ?_
                         rintro e w1 ⟨rfl, rfl⟩
                         rw [HFA.out])
            all_goals
              go_ret2
              rw [HBAD.out]
              exact ⟨⟨_, _, _, rfl⟩, Kp.refl _ _⟩
          · have hfa : decide (0 ≤ dgN A) = true := by simp; omega
            have HFA := Lib.hid hfa
            by_cases hnb : dgN B < 0
            · have hfb : decide (0 ≤ dgN B) = false := by simp; omega
              have HFB := Lib.hid hfb
              have hbad : unesc (L.drop i) = none := by rw [HDD.out]; exact unesc_bad _ _ _ (.inr (by rw [HDB.out]; exact hnb))
              have HBAD := Lib.hid (HG.out.fail hbad)
              clear hfa hfb hbad hna hnb
              go_wp2_with (first
                | (go_at_call_of 93 A
                   refine (ishex_any A _ (by omega) HT.out).mono ?_
                   rintro e w1 ⟨rfl, rfl⟩
                   rw [HFA.out])
                | (go_at_call_of 93 B
                   refine (ishex_any B _ (by omega) HT.out).mono ?_
                   rintro e w1 ⟨rfl, rfl⟩
                   rw [HFB.out]))
              all_goals
                go_ret2
                rw [HBAD.out]
                exact ⟨⟨_, _, _, rfl⟩, Kp.refl _ _⟩
            · have hfb : decide (0 ≤ dgN B) = true := by simp; omega
              have HFB := Lib.hid hfb
              have hgo : Goes (unesc L) (K ++ [two a b]) (unesc (L.drop (i + 3))) := HG.out.step (by rw [HDD.out]; exact unesc_two _ _ _ (by rw [HDA.out, HDB.out]; omega))
              have HGO := Lib.hid hgo
              clear hfa hfb hgo hna hnb
              go_wp2_with (first
                | (go_at_call_of 93 A
                   refine (ishex_any A _ (by omega) HT.out).mono ?_
                   rintro e w1 ⟨rfl, rfl⟩
                   rw [HFA.out])
                | (go_at_call_of 93 B
                   refine (ishex_any B _ (by omega) HT.out).mono ?_
                   rintro e w1 ⟨rfl, rfl⟩
                   rw [HFB.out]))
              go_roundw
              case rel => exact ⟨i + 3, n + 1, K ++ [two a b], by omega, rfl, by go_num, rfl, by go_num, HGO.out, by simp; omega, fun h => (by omega), by first | rfl | trivial⟩
              case measure => simp [intOf]; omega
        · have hn2 : (N : Int) ≤ (i : Int) + 2 := by omega
          have hbad : unesc (L.drop i) = none := by rw [HDR.out]; exact unesc_short _ (by rw [List.length_drop]; omega)
          have HBAD := Lib.hid (HG.out.fail hbad)
          clear hbad hc
          go_wp2_with fail
          all_goals
            go_ret2
            rw [HBAD.out]
            exact ⟨⟨_, _, _, rfl⟩, Kp.refl _ _⟩
      · have hgo : Goes (unesc L) (K ++ [c]) (unesc (L.drop (i + 1))) := HG.out.step (by rw [HDR.out]; exact unesc_plain _ _ h37)
        have HGO := Lib.hid hgo
        have hk1 : n = 0 → K ++ [c] = L.take (i + 1) := fun h => by rw [take_snoc L i (by omega), HK0.out h, hc]
        have HK1 := Lib.hid hk1
        obtain ⟨C, hC⟩ : ∃ C, C = c.toNat := ⟨_, rfl⟩
        rw [← hC] at hx
        have h37' : ((C : Int) == 37) = false := by
          rw [beq_eq_false_iff_ne]
          intro h
          apply h37
          apply UInt8.toNat_inj.1
          rw [← hC]
          simpa using (by omega : C = 37)
        clear hgo hk1 hC hc h37
        by_cases h43 : C = 43
        · subst h43
          go_wp2_with fail
          go_roundw
          case rel => exact ⟨i + 1, n, K ++ [c], by omega, rfl, rfl, rfl, by go_num, HGO.out, by simp; omega, HK1.out, by first | rfl | trivial⟩
          case measure => simp [intOf]; omega
        · have h43' : ((C : Int) == 43) = false := by rw [beq_eq_false_iff_ne]; omega
          clear h43
          go_wp2_with fail
          go_roundw
          case rel => exact ⟨i + 1, n, K ++ [c], by omega, rfl, rfl, rfl, by go_num, HGO.out, by simp; omega, HK1.out, by first | rfl | trivial⟩
          case measure => simp [intOf]; omega
    · obtain rfl : i = N := by omega
      have hdone : unesc L = some K := HG.out.done (by rw [drop_end L i (by omega)]; exact unesc_nil)
      have HDONE := Lib.hid hdone
      clear hdone HG
      by_cases hn0 : n = 0
      · subst hn0
        have hKL : K = L := by rw [HK0.out rfl, List.take_of_length_le (by omega)]
        have HKL := Lib.hid hKL
        clear hKL
        go_wp2_with fail
        go_ret2
        rw [HDONE.out, HKL.out, HL.out]
        exact ⟨by show Ending.returned _ = Ending.returned (.tuple #[strV s.data.toList, .nilIface]); rw [← strV_data s]; rfl, Kp.refl _ _⟩
      · have hn1 : ((n : Int) == 0) = false := by rw [beq_eq_false_iff_ne]; omega
        obtain ⟨m, hm⟩ : ∃ m, m = i - 2 * n := ⟨_, rfl⟩
        have hmi : (i : Int) - 2 * (n : Int) = (m : Int) := by omega
        have hkm : m ≤ i := by omega
        clear hn0 hm HK0 hlt
        go_wp2_with (first
          | (go_at_call 95
             refine (grow_any m _ (by omega)).mono ?_
             rintro e w1 ⟨rfl, hb1, hk1⟩
             have HB1 := Lib.hid hb1
             have HK1 := Lib.hid hk1
             clear hb1 hk1)
          | fail)
        go_loopw [12] (fun iv wr => ∃ (j : Nat) (K2 : List UInt8), j ≤ i ∧ iv = .int .i64 j ∧ Goes (unesc L) K2 (unesc (L.drop j)) ∧ K2.length ≤ j ∧ Bld wr w.heap.size w.heap.size K2 ∧ Keep w wr) (fun iv _ => i - (intOf iv).toNat)
        case atStart => exact ⟨0, [], Nat.zero_le _, rfl, by simpa using Goes.start _, Nat.le_refl _, HB1.out, HK1.out⟩
        case round =>
          obtain ⟨j, K2, hj, rfl, hg2, hk2l, hb2, hk2⟩ := hrel
          have HG2 := Lib.hid hg2
          have HB2 := Lib.hid hb2
          have HK2 := Lib.hid hk2
          clear hg2 hb2 hk2 HB1 HK1
          by_cases hlt : j < i
          · have hil : j < L.length := by omega
            have hx := HI.out j hil
            obtain ⟨c, hc⟩ : ∃ c, c = L[j] := ⟨_, rfl⟩
            rw [← hc] at hx
            have hdr := drop_at L j hil
            rw [← hc] at hdr
            have HDR := Lib.hid hdr
            clear hdr hc
            by_cases h37 : c = 37
            · subst h37
              replace hx : ∀ (w : World), (Instr.index 9 (.string s) (.int .i64 (j : Int))).run Tryz.prog w = .ok (.int .u8 37) w := hx
              have h2 : j + 2 < i := by
                rcases Nat.lt_or_ge (j + 2) i with h | h
                · exact h
                · have hbad : unesc (L.drop j) = none := by rw [HDR.out]; exact unesc_short _ (by rw [List.length_drop]; omega)
                  have h3 := HG2.out.fail hbad
                  rw [HDONE.out] at h3
                  cases h3
              have hxa := HI.out (j + 1) (by omega)
              have hxb := HI.out (j + 2) (by omega)
              obtain ⟨a, ha⟩ : ∃ a, a = L[j + 1]'(by omega) := ⟨_, rfl⟩
              obtain ⟨b, hb⟩ : ∃ b, b = L[j + 2]'(by omega) := ⟨_, rfl⟩
              rw [← ha] at hxa
              rw [← hb] at hxb
              have hd1 := drop_at L (j + 1) (by omega)
              have hd2 := drop_at L (j + 2) (by omega)
              rw [← ha] at hd1
              rw [← hb] at hd2
              have hdd : L.drop j = 37 :: a :: b :: L.drop (j + 3) := by rw [HDR.out, hd1, hd2]
              have hok : ¬ (dg a < 0 ∨ dg b < 0) := fun hbad => by
                have h3 := HG2.out.fail (by rw [hdd]; exact unesc_bad _ _ _ hbad)
                rw [HDONE.out] at h3
                cases h3
              have hgo : Goes (unesc L) (K2 ++ [two a b]) (unesc (L.drop (j + 3))) := HG2.out.step (by rw [hdd]; exact unesc_two _ _ _ hok)
              have HGO := Lib.hid hgo
              have hal := a.toNat_lt
              have hbl := b.toNat_lt
              have hor := or_two a b (by omega) (by omega)
              have hna : ¬ dgN a.toNat < 0 := fun h => hok (.inl h)
              have hnb : ¬ dgN b.toNat < 0 := fun h => hok (.inr h)
              obtain ⟨A, hA⟩ : ∃ A, A = a.toNat := ⟨_, rfl⟩
              obtain ⟨B, hB⟩ : ∃ B, B = b.toNat := ⟨_, rfl⟩
              rw [show dg a = dgN A by unfold dg; rw [hA], show dg b = dgN B by unfold dg; rw [hB]] at hor
              rw [← hA] at hxa hal hna
              rw [← hB] at hxb hbl hnb
              replace hxa : ∀ (w : World), (Instr.index 9 (.string s) (.int .i64 ((j : Int) + 1))).run Tryz.prog w = .ok (.int .u8 (A : Int)) w := hxa
              replace hxb : ∀ (w : World), (Instr.index 9 (.string s) (.int .i64 ((j : Int) + 2))).run Tryz.prog w = .ok (.int .u8 (B : Int)) w := hxb
              have HUA := Lib.hid (fun (wx : World) => unhex_any A wx hal hna)
              have HUB := Lib.hid (fun (wx : World) => unhex_any B wx hbl hnb)
              have HOR := Lib.hid hor
              replace hor : bits .or .u8 (IntKind.u8.wrap (dgN A * 16)) (dgN B) = ((two a b).toNat : Int) := by
                rw [show IntKind.u8.wrap (dgN A * 16) = dgN A * 16 % 256 by simp [IntKind.wrap, IntKind.bits, IntKind.signed]]; exact hor
              obtain ⟨da, hda⟩ : ∃ da, da = dgN A := ⟨_, rfl⟩
              obtain ⟨db, hdb⟩ : ∃ db, db = dgN B := ⟨_, rfl⟩
              rw [← hda] at HUA hor
              rw [← hdb] at HUB hor
              have hw1 : IntKind.i64.wrap ((j : Int) + 1) = (j : Int) + 1 := wrap64_of _ (by omega) (by omega)
              have hw2 : IntKind.i64.wrap ((j : Int) + 2) = (j : Int) + 2 := wrap64_of _ (by omega) (by omega)
              clear hd1 hd2 hdd ha hb hA hB hok hna hnb hgo HOR hda hdb
              go_wp2_with fail
              go_region_held3 (fun _ => True) (trivial) (first
                | (go_at_call_of 94 A
                   refine (HUA.out _).mono ?_
                   rintro e w3 ⟨rfl, rfl⟩)
                | (go_at_call_of 94 B
                   refine (HUB.out _).mono ?_
                   rintro e w3 ⟨rfl, rfl⟩)
                | (go_at_call 96
                   refine (wbyte_any _ _ K2 (two a b) _ HB2.out.drew (by omega)).mono ?_
                   rintro e w4 ⟨rfl, hb4, hk4⟩
                   have HB4 := Lib.hid hb4
                   have HK4 := Lib.hid (HK2.out.drew.then_below hk4)
                   clear hb4 hk4))
              all_goals
                go_wp2_with fail
                go_roundw
                case rel => exact ⟨j + 3, K2 ++ [two a b], by omega, by go_num, HGO.out, by simp; omega, HB4.out, HK4.out⟩
                case measure => simp [intOf]; omega
            · have hgo : Goes (unesc L) (K2 ++ [c]) (unesc (L.drop (j + 1))) := HG2.out.step (by rw [HDR.out]; exact unesc_plain _ _ h37)
              have HGO := Lib.hid hgo
              have h37' : ((c.toNat : Int) == 37) = false := by
                rw [beq_eq_false_iff_ne]
                intro h
                apply h37
                apply UInt8.toNat_inj.1
                simpa using (by omega : c.toNat = 37)
              clear hgo h37
              by_cases h43 : c = 43
              · subst h43
                replace hx : ∀ (w : World), (Instr.index 9 (.string s) (.int .i64 (j : Int))).run Tryz.prog w = .ok (.int .u8 43) w := hx
                go_wp2_with (go_at_call 96
                             refine (wbyte_any _ _ K2 43 _ HB2.out (by omega)).mono ?_
                             rintro e w4 ⟨rfl, hb4, hk4⟩
                             have HB4 := Lib.hid hb4
                             have HK4 := Lib.hid (HK2.out.then_below hk4)
                             clear hb4 hk4)
                go_roundw
                case rel => exact ⟨j + 1, K2 ++ [43], by omega, by go_num, HGO.out, by simp; omega, HB4.out, HK4.out⟩
                case measure => simp [intOf]; omega
              · have h43' : ((c.toNat : Int) == 43) = false := by
                  rw [beq_eq_false_iff_ne]
                  intro h
                  apply h43
                  apply UInt8.toNat_inj.1
                  simpa using (by omega : c.toNat = 43)
                clear h43
                go_wp2_with (go_at_call 96
                             refine (wbyte_any _ _ K2 c _ HB2.out (by omega)).mono ?_
                             rintro e w4 ⟨rfl, hb4, hk4⟩
                             have HB4 := Lib.hid hb4
                             have HK4 := Lib.hid (HK2.out.then_below hk4)
                             clear hb4 hk4)
                go_roundw
                case rel => exact ⟨j + 1, K2 ++ [c], by omega, by go_num, HGO.out, by simp; omega, HB4.out, HK4.out⟩
                case measure => simp [intOf]; omega
          · obtain rfl : j = i := by omega
            have hdone2 : unesc L = some K2 := HG2.out.done (by rw [drop_end L j (by omega)]; exact unesc_nil)
            have HDONE2 := Lib.hid hdone2
            clear hdone2 HG2
            go_wp2_with (go_at_call 97
                         refine (bstr_any _ _ K2 _ HB2.out).mono ?_
                         rintro e w4 ⟨rfl, hk4⟩
                         have HK4 := Lib.hid (HK2.out.then_below hk4)
                         clear hk4)
            go_ret2
            rw [HDONE2.out]
            exact ⟨rfl, HK4.out⟩
end Go.Proofs.YtfodkjpjejoemaaGreatDoor
