/-
  Proofs of a tree's leaves: the package's lists of proofs handed out by impl.
  Conditions: the argument reads as a list of slices of bytes; SHA-256's table holds its numbers.
-/
import Derived.Test.YtfodkjpjejoemaaDoorTrail6
namespace Go.Proofs.YtfodkjpjejoemaaDoor
open Go Go.RowKit
attribute [local go_sem ↓] Go.wp_at_zero Go.wp_at_succ

set_option maxRecDepth 100000 in
set_option maxHeartbeats 1000000 in
theorem proofsFrom_zero (v : Value) (w : World) (hv : Mat w v []) (hK : KTab w) :
    Calls Tryd.prog 68 #[v] w fun e w' => ∃ hv pv, e = .returned (.tuple #[hv, pv]) ∧ Byts w' hv (rootS []) ∧ Slc PtrU w' pv (prfs []) ∧ Keep w w' := by
  have HV := Lib.hid hv
  have HK := Lib.hid hK
  obtain ⟨A, c, rfl, h1, h2, h3, h4⟩ := hv
  have hmk : ∀ w : World, (Instr.makeSlice 104 (.int .i64 0) (.int .i64 0)).run Tryd.prog w = .ok (.slice (some ⟨w.heap.size, 0, none⟩) 0 0) (w.alloc (.cells #[] 94)) := makeP 0 (by omega)
  clear hK h3 h4
  go_enter Tryd.func68, Tryd.ntmps68
  go_wp2_with fail
  refine (trailsFrom_zero _ w HV.out HK.out).mono ?_
  rintro e w1 ⟨tv, r, hr, rfl, hnr, hbr, hk1⟩
  have HK1 := Lib.hid hk1
  have HBR := Lib.hid hbr
  obtain ⟨d0, -, -, -⟩ := hnr.cells
  obtain ⟨Ar, cr, rfl, -, -, -, -⟩ := hbr
  unfold ptrV
  clear hk1 hnr
  go_wp2_with fail
  go_loopw [22] (fun iv wr => iv = .int .i64 0 ∧ Keep w1 wr) (fun iv _ => 0)
  case atStart => exact ⟨rfl, (Kp.refl _ _).alloc _⟩
  case round =>
    obtain ⟨rfl, hkp⟩ := hrel
    have HKP := Lib.hid hkp
    clear hkp
    go_wp2_with fail
    go_ret2
    exact ⟨_, _, rfl, (HBR.out).keep HKP.out, ⟨some ⟨w1.heap.size, 0, none⟩, 0, rfl, Nat.le_refl _, by simp [maxLen], (fun e => by cases e), fun h => absurd h (by simp [prfs])⟩, HK1.out.trans HKP.out⟩

theorem proofsFrom_all (v : Value) (L : List (List UInt8)) (w : World) (hv : Mat w v L) (hK : KTab w) (hL : L.length ≤ 1000000) (hb : ∀ x ∈ L, x.length ≤ 1073741824) :
    Calls Tryd.prog 68 #[v] w fun e w' => ∃ hv pv, e = .returned (.tuple #[hv, pv]) ∧ Byts w' hv (rootS L) ∧ Slc PtrU w' pv (prfs L) ∧ Keep w w' := by
  rcases Nat.eq_zero_or_pos L.length with h | h
  · obtain rfl := List.eq_nil_of_length_eq_zero h
    exact proofsFrom_zero v w hv hK
  · exact proofsFrom_any v L w hv h hK hL hb

/-- proofs in a row: four cells each -/
def cellsP (PS : List (Prf × Value × Value)) : List Value := PS.flatMap fun p => [.int .i64 p.1.total, .int .i64 p.1.index, p.2.1, p.2.2]
theorem cellsP_length (PS : List (Prf × Value × Value)) : (cellsP PS).length = PS.length * 4 := by
  induction PS with
  | nil => rfl
  | cons p r ih => show (_ :: _ :: _ :: _ :: cellsP r).length = _; simp [ih]; omega
theorem cellsP_snoc (PS : List (Prf × Value × Value)) (p : Prf × Value × Value) : cellsP (PS ++ [p]) = cellsP PS ++ [.int .i64 p.1.total, .int .i64 p.1.index, p.2.1, p.2.2] := by
  unfold cellsP; rw [List.flatMap_append]; simp
theorem cellsP_at (PS : List (Prf × Value × Value)) (i : Nat) (h : i < PS.length) : (cellsP PS)[i * 4]? = some (.int .i64 PS[i].1.total) ∧ (cellsP PS)[i * 4 + 1]? = some (.int .i64 PS[i].1.index) ∧ (cellsP PS)[i * 4 + 2]? = some PS[i].2.1 ∧ (cellsP PS)[i * 4 + 3]? = some PS[i].2.2 := by
  induction PS generalizing i with
  | nil => simp at h
  | cons p r ih =>
    have e : cellsP (p :: r) = .int .i64 p.1.total :: .int .i64 p.1.index :: p.2.1 :: p.2.2 :: cellsP r := rfl
    rw [e]
    cases i with
    | zero => simp
    | succ i =>
      have := ih i (by simpa using h)
      rw [show (i + 1) * 4 = i * 4 + 4 by omega, show i * 4 + 4 + 1 = i * 4 + 1 + 4 by omega, show i * 4 + 4 + 2 = i * 4 + 2 + 4 by omega, show i * 4 + 4 + 3 = i * 4 + 3 + 4 by omega]
      simpa using this
def PRow (w : World) (B : Nat) (v : Value) (PS : List (Prf × Value × Value)) : Prop := w.ownsRow B 25 4 v PS.length (cellsP PS)
theorem PRow.nil_ (w : World) (B : Nat) : PRow w B (.slice none 0 0) [] := ⟨by simp [cellsP], .inl ⟨rfl, rfl⟩⟩
theorem PRow.keep {w w' : World} {B : Nat} {v : Value} {PS : List (Prf × Value × Value)} (h : PRow w B v PS) (k : Keep w w') : PRow w' B v PS := by
  refine ⟨h.1, ?_⟩
  rcases h.2 with h2 | ⟨g, cap, cur, rfl, hb, hh, h3, h4, h5, h6⟩
  · exact .inl h2
  · exact .inr ⟨g, cap, cur, rfl, hb, (k.block g (lt_of_block hh) (fun x => x)).trans hh, h3, h4, h5, h6⟩
theorem PRow.at_ {w : World} {B : Nat} {v : Value} {PS : List (Prf × Value × Value)} (h : PRow w B v PS) (i : Nat) (hi : i < PS.length) : ∃ g c, v = .slice (some ⟨g, 0, none⟩) PS.length c ∧
    w.cell? ⟨g, i * 4, none⟩ = some (.int .i64 PS[i].1.total) ∧ w.cell? ⟨g, i * 4 + 1, none⟩ = some (.int .i64 PS[i].1.index) ∧ w.cell? ⟨g, i * 4 + 2, none⟩ = some PS[i].2.1 ∧ w.cell? ⟨g, i * 4 + 3, none⟩ = some PS[i].2.2 := by
  rcases h.2 with ⟨_, h0⟩ | ⟨g, cap, cur, rfl, hb, hh, h3, h4, h5, h6⟩
  · omega
  · have ha := cellsP_at PS i hi
    have hl := cellsP_length PS
    have h7 : ∀ k, k < PS.length * 4 → cur[k]? = (cellsP PS)[k]? := fun k hk => by
      rw [← h6, List.getElem?_take_of_lt hk]; simp
    exact ⟨g, cap, rfl, by rw [cell_of_row _ _ _ _ _ _ hh, h7 _ (by omega)]; exact ha.1, by rw [cell_of_row _ _ _ _ _ _ hh, h7 _ (by omega)]; exact ha.2.1, by rw [cell_of_row _ _ _ _ _ _ hh, h7 _ (by omega)]; exact ha.2.2.1, by rw [cell_of_row _ _ _ _ _ _ hh, h7 _ (by omega)]; exact ha.2.2.2⟩
/-- a list of proofs, handed out -/
def PList (w : World) (v : Value) (L : List Prf) : Prop := ∃ B PS, PRow w B v PS ∧ PS.length = L.length ∧ ∀ i (h : i < PS.length) (h2 : i < L.length), PS[i].1 = L[i] ∧ PrfV w (.agg #[.int .i64 PS[i].1.total, .int .i64 PS[i].1.index, PS[i].2.1, PS[i].2.2]) L[i]
theorem infoPrf : (Tryd.prog.info? 25).map (fun i => (i.zero, i.size, i.bytes)) = some (some (.agg #[.int .i64 0, .int .i64 0, .slice none 0 0, .slice none 0 0]), 4, 64) := by kernel_rfl

set_option maxRecDepth 100000 in
set_option maxHeartbeats 2000000 in
theorem implProofs_any (v : Value) (L : List (List UInt8)) (w : World) (hv : Mat w v L) (hK : KTab w) (hL : L.length ≤ 1000000) (hb : ∀ x ∈ L, x.length ≤ 1073741824) :
    Calls Tryd.prog 33 #[v] w fun e w' => ∃ hv pv, e = .returned (.tuple #[hv, pv]) ∧ Byts w' hv (rootS L) ∧ PList w' pv (prfs L) ∧ Keep w w' := by
  have HV := Lib.hid hv
  have HK := Lib.hid hK
  have HB := Lib.hid hb
  obtain ⟨A, c, rfl, h1, h2, h3, h4⟩ := hv
  obtain ⟨i0, ii, hz0, hz1, hz2⟩ := info_parts infoPrf
  obtain ⟨n, hn⟩ : ∃ n, n = L.length := ⟨_, rfl⟩
  have HN := Lib.hid hn
  have hpl : (prfs L).length = n := by rw [prfs_length, hn]
  have HPL := Lib.hid hpl
  have HLL := Lib.hid hL
  rw [← hn] at h1 hL ⊢
  unfold maxLen at h2
  clear hK hb h3 h4 hn hpl
  go_enter Tryd.func33, Tryd.ntmps33
  go_wp2_with fail
  refine (proofsFrom_all _ L w (by rw [HN.out]; exact HV.out) HK.out HLL.out HB.out).mono ?_
  rintro e w1 ⟨hvv, pv, rfl, hbr, hsp, hk1⟩
  have HBR := Lib.hid hbr
  have HK1 := Lib.hid hk1
  have HSP := Lib.hid hsp
  obtain ⟨Ar, cr, rfl, -, -, -, -⟩ := hbr
  obtain ⟨Ap, cp, rfl, s1, s2, s3, s4⟩ := hsp
  rw [HPL.out] at s1
  rw [HPL.out]
  unfold maxLen at s2
  have S4 := Lib.hid s4
  clear hk1 s3 s4
  go_wp2_with fail
  go_loopw [3, 14] (fun ov iv wr => ∃ (i : Nat) (PS : List (Prf × Value × Value)), i ≤ n ∧ iv = .int .i64 i ∧ PS.length = i ∧ PRow wr w1.heap.size ov PS ∧ (∀ k (h : k < PS.length) (h2 : k < (prfs L).length), PS[k].1 = (prfs L)[k] ∧ PrfV w1 (.agg #[.int .i64 PS[k].1.total, .int .i64 PS[k].1.index, PS[k].2.1, PS[k].2.2]) (prfs L)[k]) ∧ Keep w1 wr) (fun _ iv _ => n - (intOf iv).toNat)
  case atStart => exact ⟨0, [], Nat.zero_le _, rfl, rfl, PRow.nil_ _ _, fun k h => absurd h (by simp), Kp.refl _ _⟩
  case round =>
    obtain ⟨i, PS, hi, rfl, hql, hrow, hel, hkp⟩ := hrel
    have HQL := Lib.hid hql
    have HRW := Lib.hid hrow
    have HEL := Lib.hid hel
    have HKP := Lib.hid hkp
    have hws := hkp.size
    clear hql hrow hel hkp
    by_cases hlt : i < n
    · have hiP : i < (prfs L).length := by rw [HPL.out]; exact hlt
      obtain ⟨g, off, rfl, hc⟩ := S4.out (by omega)
      obtain ⟨u, hu, ⟨q, rfl, hat⟩⟩ := hc i hiP
      obtain ⟨p, hp⟩ : ∃ p, p = (prfs L)[i] := ⟨_, rfl⟩
      rw [← hp] at hat
      have HP := Lib.hid hp
      obtain ⟨lv, av, c0, c1, c2, c3, hlv, hav, b1, b2, b3, b4⟩ := hat
      have HLV := Lib.hid hlv
      have HAV := Lib.hid hav
      have hu2 := HKP.out.cell_of hu (fun x => x)
      unfold ptrV at hu2
      have hp5 : PS.length ≤ 1000000 := by rw [HQL.out]; omega
      have HOU := Lib.hid (implOurs_any q p wr lv av (Byts.keep hlv HKP.out) (Mat.keep hav HKP.out) (HKP.out.cell_of c0 (fun x => x)) (HKP.out.cell_of c1 (fun x => x)) (HKP.out.cell_of c2 (fun x => x)) (HKP.out.cell_of c3 (fun x => x)))
      obtain ⟨Al, cl, rfl, -, -, -, -⟩ := hlv
      obtain ⟨Aa, ca, rfl, -, -, -, -⟩ := hav
      obtain ⟨pt, hpt⟩ : ∃ pt, pt = p.total := ⟨_, rfl⟩
      obtain ⟨pi, hpi⟩ : ∃ pi, pi = p.index := ⟨_, rfl⟩
      rw [← hpt, ← hpi] at HOU
      have HPT := Lib.hid hpt
      have HPI := Lib.hid hpi
      clear hc hu hp hpt hpi c0 c1 c2 c3
      go_wp2_with (first
        | (go_at_call 58
           refine HOU.out.mono ?_
           rintro e w2 ⟨rfl, hk2⟩
           have HK2 := Lib.hid hk2
           have hs2 := hk2.size
           clear hk2)
        | (at_builtin
           refine wpList_append_own _ rfl (.tmp 18) (.tmp 21) 53 rfl w1.heap.size 25 i0 (.agg #[.int .i64 0, .int .i64 0, .slice none 0 0, .slice none 0 0]) 4 64 Tryd.underlying53 ii hz0 hz1 hz2 rfl (by decide) _ PS.length _ rfl ((HRW.out.keep HK2.out).alloc _) ⟨w2.heap.size, 0, none⟩ 1 1 [.int .i64 pt, .int .i64 pi, .slice Al p.leaf.length cl, .slice Aa p.aunts.length ca] rfl rfl ?c1 ?c2 ?c3 ?c4 ?c5 ?_))
      case c1 =>
        intro j u hj
        match j, hj with
        | 0, hj => simp at hj; subst hj; simp [Addr.add]
        | 1, hj => simp at hj; subst hj; simp [Addr.add]
        | 2, hj => simp at hj; subst hj; simp [Addr.add]
        | 3, hj => simp at hj; subst hj; simp [Addr.add]
        | j + 4, hj => simp at hj
      case c2 => intro u hu; simp at hu; rcases hu with rfl | rfl | rfl | rfl <;> rfl
      case c3 => unfold maxLen; omega
      case c4 => omega
      case c5 => simp; omega
      intro v2 w3 h2 hg2 _
      have HV2 := Lib.hid h2
      have HG2 := Lib.hid (Kp.of_grown hg2)
      clear h2 hg2
      go_wp2_with fail
      go_roundw
      case rel =>
        refine ⟨i + 1, PS ++ [(p, .slice Al p.leaf.length cl, .slice Aa p.aunts.length ca)], hlt, by go_num, by rw [List.length_append, HQL.out]; rfl, ?_, ?_, ((HKP.out.trans HK2.out).alloc _).trans' HG2.out fun j hj e => by have := (HRW.out.lt j e.symm).1; omega⟩
        · unfold PRow
          rw [cellsP_snoc, List.length_append]
          have h9 := HV2.out
          rw [HPT.out, HPI.out] at h9
          exact h9
        · intro k hk hk2
          by_cases hki : k < PS.length
          · rw [List.getElem_append_left hki]
            exact HEL.out k hki hk2
          · have hkv : k = i := by rw [List.length_append, HQL.out] at hk; have := HQL.out; simp at hk; omega
            subst hkv
            have e9 : (PS ++ [(p, Value.slice Al p.leaf.length cl, Value.slice Aa p.aunts.length ca)])[k]'hk = (p, Value.slice Al p.leaf.length cl, Value.slice Aa p.aunts.length ca) := by
              rw [List.getElem_append_right (by have := HQL.out; omega)]; simp
            rw [e9, ← HP.out]
            exact ⟨rfl, _, _, rfl, HLV.out, HAV.out, b1, b2, b3, b4⟩
      case measure => simp [intOf]; omega
    · have hin : i = n := by omega
      subst hin
      go_wp2_with fail
      go_ret2
      refine ⟨_, _, rfl, HBR.out.keep HKP.out, ⟨w1.heap.size, PS, HRW.out, by rw [HQL.out, HPL.out], fun k hk hk2 => ?_⟩, HK1.out.trans HKP.out⟩
      obtain ⟨h8, h9⟩ := HEL.out k hk hk2
      exact ⟨h8, h9.keep HKP.out⟩
end Go.Proofs.YtfodkjpjejoemaaDoor
