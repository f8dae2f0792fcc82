
/-
  Paths as text: a path's keys collected, and written.
  Conditions: the keys read as bytes; the lengths are bounded.
-/
import Derived.Test.YtfodkjpjejoemaaGreatDoorZr
import Derived.Laws.Concat
import Derived.Test.YtfodkjpjejoemaaGreatDoorZi
namespace Go.Proofs.YtfodkjpjejoemaaGreatDoor
open Go Go.RowKit
attribute [local go_sem ↓] Go.wp_at_zero Go.wp_at_succ

theorem add_str (a b c : ByteArray) (h : c.data.toList = a.data.toList ++ b.data.toList) (hs : a.size + b.size ≤ 9223372036854775807) (w : World) : (Op.stringOp .add (a : ByteArray) b).run Tryz.prog w = .ok (.string c) w := by
  rw [run_string_add_sum w a b hs]
  have e : a ++ b = c := by
    apply ByteArray.ext
    apply Array.toList_inj.1
    rw [h]
    simp [ByteArray.data_append]
  rw [e]

def encV (h : Bool) : Value := .int .i64 (if h then 1 else 0)
def cellsK (KS : List (Value × Bool)) : List Value := KS.flatMap fun p => [p.1, encV p.2]
theorem cellsK_length (KS : List (Value × Bool)) : (cellsK KS).length = KS.length * 2 := by
  induction KS with
  | nil => rfl
  | cons p r ih => show (_ :: _ :: cellsK r).length = _; simp [ih]; omega
theorem cellsK_snoc (KS : List (Value × Bool)) (p : Value × Bool) : cellsK (KS ++ [p]) = cellsK KS ++ [p.1, encV p.2] := by
  unfold cellsK; rw [List.flatMap_append]; simp
theorem cellsK_at (KS : List (Value × Bool)) (i : Nat) (h : i < KS.length) : (cellsK KS)[i * 2]? = some KS[i].1 ∧ (cellsK KS)[i * 2 + 1]? = some (encV KS[i].2) := by
  induction KS generalizing i with
  | nil => simp at h
  | cons p r ih =>
    have e : cellsK (p :: r) = p.1 :: encV p.2 :: cellsK r := rfl
    rw [e]
    cases i with
    | zero => simp
    | succ i =>
      have := ih i (by simpa using h)
      rw [show (i + 1) * 2 = i * 2 + 2 by omega, show i * 2 + 2 + 1 = i * 2 + 1 + 2 by omega]
      simpa using this
/-- the keys of a path as the package keeps them -/
def KRow (w : World) (B : Nat) (v : Value) (KS : List (Value × Bool)) : Prop := w.ownsRow B 110 2 v KS.length (cellsK KS)
theorem KRow.nil_ (w : World) (B : Nat) : KRow w B (.slice none 0 0) [] := ⟨by simp [cellsK], .inl ⟨rfl, rfl⟩⟩
theorem KRow.keep {w w' : World} {B : Nat} {v : Value} {KS : List (Value × Bool)} (h : KRow w B v KS) (k : Keep w w') : KRow w' B v KS := by
  refine ⟨h.1, ?_⟩
  rcases h.2 with h2 | ⟨g, cap, cur, rfl, hb, hh, h3, h4, h5, h6⟩
  · exact .inl h2
  · exact .inr ⟨g, cap, cur, rfl, hb, (k.block g (lt_of_block hh) (fun x => x)).trans hh, h3, h4, h5, h6⟩
theorem KRow.at_ {w : World} {B : Nat} {v : Value} {KS : List (Value × Bool)} (h : KRow w B v KS) (i : Nat) (hi : i < KS.length) : ∃ g c, v = .slice (some ⟨g, 0, none⟩) KS.length c ∧ w.cell? ⟨g, i * 2, none⟩ = some KS[i].1 ∧ w.cell? ⟨g, i * 2 + 1, none⟩ = some (encV KS[i].2) := by
  rcases h.2 with ⟨_, h0⟩ | ⟨g, cap, cur, rfl, hb, hh, h3, h4, h5, h6⟩
  · omega
  · have ha := cellsK_at KS i hi
    have hl := cellsK_length KS
    have h7 : ∀ k, k < KS.length * 2 → cur[k]? = (cellsK KS)[k]? := fun k hk => by
      rw [← h6, List.getElem?_take_of_lt hk]; simp
    exact ⟨g, cap, rfl, by rw [cell_of_row _ _ _ _ _ _ hh, h7 _ (by omega)]; exact ha.1, by rw [cell_of_row _ _ _ _ _ _ hh, h7 _ (by omega)]; exact ha.2⟩

theorem infoKey : (Tryz.prog.info? 110).map (fun i => (i.zero, i.size, i.bytes)) = some (some (.agg #[.slice none 0 0, .int .i64 0]), 2, 32) := by kernel_rfl

set_option maxRecDepth 100000 in
set_option maxHeartbeats 1000000 in
theorem appendKey_any (B : Nat) (v : Value) (KS : List (Value × Bool)) (A : Option Addr) (n c : Nat) (h : Bool) (w : World) (ho : KRow w B v KS) (hl : KS.length ≤ 1000000) (hB : B ≤ w.heap.size) :
    Calls Tryz.prog 36 #[v, .slice A n c, encV h] w fun e w' => ∃ v', e = .returned v' ∧ KRow w' B v' (KS ++ [(.slice A n c, h)]) ∧ Kp (fun i => B ≤ i) w w' := by
  have HO := Lib.hid ho
  obtain ⟨i0, hi, hz0, hz1, hz2⟩ := info_parts infoKey
  unfold encV
  obtain ⟨e, he⟩ : ∃ e : Int, e = if h then 1 else 0 := ⟨_, rfl⟩
  rw [← he]
  have HE := Lib.hid he
  clear ho he
  go_enter Tryz.func36, Tryz.ntmps36
  go_wp2_with (at_builtin
               refine wpList_append_own _ rfl (.tmp 7) (.tmp 11) 89 rfl B 110 i0 (.agg #[.slice none 0 0, .int .i64 0]) 2 32 Tryz.underlying89 hi hz0 hz1 hz2 rfl (by decide) _ KS.length _ rfl (HO.out.alloc _) ⟨w.heap.size, 0, none⟩ 1 1 [.slice A n c, .int .i64 e] rfl rfl ?c1 ?c2 ?c3 ?c4 ?c5 ?_)
  case c1 =>
    intro j u hj
    match j, hj with
    | 0, hj => simp at hj; subst hj; simp [Addr.add]
    | 1, hj => simp at hj; subst hj; simp [Addr.add]
    | j + 2, hj => simp at hj
  case c2 => intro u hu; simp at hu; rcases hu with rfl | rfl <;> rfl
  case c3 => unfold maxLen; omega
  case c4 => omega
  case c5 => simp; omega
  intro v2 w2 h2 hg2 _
  have HV2 := Lib.hid h2
  have HG2 := Lib.hid hg2
  clear h2 hg2
  go_wp2_with fail
  go_ret
  refine ⟨v2, rfl, ?_, ((Kp.refl (fun i => B ≤ i) w).alloc _).trans' (Kp.of_grown HG2.out) fun i hi e => (HO.out.lt i e.symm).1⟩
  unfold KRow
  rw [cellsK_snoc, List.length_append]
  have h9 := HV2.out
  rw [HE.out] at h9
  exact h9

theorem pathL_snoc (NS : List (List UInt8 × Bool)) (p : List UInt8 × Bool) : pathL (NS ++ [p]) = pathL NS ++ (47 :: txt p) := by
  unfold pathL; rw [List.flatMap_append]; simp
theorem pathL_length (NS : List (List UInt8 × Bool)) (M : Nat) (h : ∀ p ∈ NS, p.1.length ≤ M) : (pathL NS).length ≤ NS.length * (3 * M + 3) := by
  induction NS with
  | nil => simp [pathL]
  | cons p r ih =>
    have h1 := ih (fun q hq => h q (by simp [hq]))
    have h2 := txt_length p
    have h3 := h p (by simp)
    show (47 :: txt p ++ pathL r).length ≤ _
    rw [List.length_append, List.length_cons, List.length_cons, Nat.add_mul]
    omega

set_option maxRecDepth 100000 in
set_option maxHeartbeats 2000000 in
theorem keyString_any (B : Nat) (v : Value) (KS : List (Value × Bool)) (NS : List (List UInt8 × Bool)) (w : World) (ho : KRow w B v KS) (hn : NS.length = KS.length) (hl : KS.length ≤ 1000)
    (hk : ∀ i (h : i < KS.length) (h2 : i < NS.length), NS[i].2 = KS[i].2 ∧ Byts w KS[i].1 NS[i].1) (hb : ∀ p ∈ NS, p.1.length ≤ 2000) (ht : UTab w) :
    Calls Tryz.prog 37 #[v] w fun e w' => e = .returned (strV (pathL NS)) ∧ Keep w w' := by
  have HO := Lib.hid ho
  have HT := Lib.hid ht
  have HK := Lib.hid hk
  have HB := Lib.hid hb
  have HLN := Lib.hid hn
  obtain ⟨n, hnn⟩ : ∃ n, n = KS.length := ⟨_, rfl⟩
  have HN := Lib.hid hnn
  obtain ⟨A, c, rfl, hA, hcap⟩ : ∃ A c, v = .slice A n c ∧ (0 < n → ∃ g, A = some ⟨g, 0, none⟩) ∧ n ≤ c := by
    rcases ho.2 with ⟨rfl, h0⟩ | ⟨g, cap, cur, rfl, hb, hh, h3, h4, h5, h6⟩
    · exact ⟨none, 0, by rw [hnn, h0], fun h => by omega, by omega⟩
    · exact ⟨_, cap, by rw [hnn], fun _ => ⟨g, rfl⟩, by omega⟩
  rw [← hnn] at hl
  have HA := Lib.hid hA
  clear ho ht hk hb hn hnn hA
  go_enter Tryz.func37, Tryz.ntmps37
  go_wp2_with fail
  go_loopw [3, 8] (fun sv iv wr => ∃ (i : Nat) (S : ByteArray), i ≤ n ∧ sv = .string S ∧ iv = .int .i64 i ∧ S.data.toList = pathL (NS.take i) ∧ Keep w wr) (fun _ iv _ => n - (intOf iv).toNat)
  case atStart => exact ⟨0, ⟨#[]⟩, Nat.zero_le _, rfl, rfl, by simp [pathL], Kp.refl _ _⟩
  case round =>
    obtain ⟨i, S, hi, rfl, rfl, hS, hkp⟩ := hrel
    have HS := Lib.hid hS
    have HKP := Lib.hid hkp
    have hSz : S.size ≤ 100000000 := by
      have h1 := pathL_length (NS.take i) 2000 (fun p hp => HB.out p (List.mem_of_mem_take hp))
      rw [← hS, ← size_data, List.length_take] at h1
      have : min i NS.length * (3 * 2000 + 3) ≤ 1000 * (3 * 2000 + 3) := Nat.mul_le_mul_right _ (by omega)
      omega
    clear hS hkp
    by_cases hlt : i < n
    · have hik : i < KS.length := by rw [← HN.out]; exact hlt
      have hin : i < NS.length := by rw [HLN.out]; exact hik
      obtain ⟨g, rfl⟩ := HA.out (by omega)
      obtain ⟨g', c', hv', hc0, hc1⟩ := (HO.out.keep HKP.out).at_ i hik
      have hgg : g = g' := by simp at hv'; exact hv'.1
      subst hgg
      have hbb := HB.out _ (List.getElem_mem hin)
      obtain ⟨hk1, hk2⟩ := HK.out i hik hin
      obtain ⟨kv, hkv⟩ : ∃ u, u = KS[i].1 := ⟨_, rfl⟩
      obtain ⟨kb, hkb⟩ : ∃ u, u = KS[i].2 := ⟨_, rfl⟩
      obtain ⟨N, hN⟩ : ∃ u, u = NS[i].1 := ⟨_, rfl⟩
      rw [← hkv] at hc0 hk2
      rw [← hkb] at hc1 hk1
      rw [← hN] at hk2 hbb
      have hsn : pathL (NS.take (i + 1)) = pathL (NS.take i) ++ (47 :: txt (N, kb)) := by
        rw [take_snoc NS i hin, pathL_snoc, hN, ← hk1]
      have HSN := Lib.hid hsn
      have HBY := Lib.hid (Byts.keep hk2 HKP.out)
      have HT2 := Lib.hid (HT.out.keep HKP.out)
      obtain ⟨A3, c3, rfl, -, -, -, -⟩ := hk2
      clear hkv hkb hN hk1 hsn hv' hik hin HA
      obtain ⟨SN, hSN⟩ : ∃ SN : ByteArray, SN = ⟨N.toArray⟩ := ⟨_, rfl⟩
      have hSNd : SN.data.toList = N := by rw [hSN]
      have hst : ∀ o : Obj, (convert 24 9 (.slice A3 N.length c3)).run Tryz.prog (wr.alloc o) = .ok (.string SN) (wr.alloc o) := fun o => by
        rw [byts_string (P := Tryz.prog) Tryz.underlying24 Tryz.underlying5 Tryz.underlying9 (Byts.keep HBY.out ((Kp.refl (fun _ => False) wr).alloc o)), hSN]
      have hSNz : SN.size ≤ 2000 := by rw [size_data, hSNd]; exact hbb
      have hel := esc_length N
      have hhl := hexU_length N
      cases kb with
      | true =>
        replace hc1 : wr.cell? ⟨g, i * 2 + 1, none⟩ = some (.int .i64 1) := hc1
        obtain ⟨E, hE⟩ : ∃ E : ByteArray, E = ⟨(hexU N).toArray⟩ := ⟨_, rfl⟩
        have hEd : E.data.toList = hexU N := by rw [hE]
        have hEV : strV (hexU N) = .string E := by rw [hE]; rfl
        have hEz : E.size ≤ 4000 := by rw [size_data, hEd]; omega
        obtain ⟨F, hF⟩ : ∃ F : ByteArray, F = ⟨(47 :: 120 :: 58 :: hexU N).toArray⟩ := ⟨_, rfl⟩
        have hFd : F.data.toList = 47 :: 120 :: 58 :: hexU N := by rw [hF]
        have hFz : F.size ≤ 4003 := by rw [size_data, hFd]; simp; omega
        have ha1 := add_str { data := #[47, 120, 58] } E F (by rw [hFd, hEd]; rfl) (by have : ({ data := #[47, 120, 58] } : ByteArray).size = 3 := rfl; omega)
        obtain ⟨G, hG⟩ : ∃ G : ByteArray, G = ⟨(pathL (NS.take i) ++ (47 :: txt (N, true))).toArray⟩ := ⟨_, rfl⟩
        have hGd : G.data.toList = pathL (NS.take i) ++ (47 :: txt (N, true)) := by rw [hG]
        have ha2 := add_str S F G (by rw [hGd, HS.out, hFd]; rfl) (by omega)
        have HG := Lib.hid hGd
        have HEV := Lib.hid hEV
        clear hSN hSNd hst hel hhl hE hEd hEV hF hFd hG hGd
        go_wp2_with (go_at_call 45
                     refine (hexUpper_any _ N _ (Byts.keep HBY.out ((Kp.refl (fun _ => False) wr).alloc _)) (by omega)).mono ?_
                     rintro e w2 ⟨rfl, hk2⟩
                     rw [HEV.out]
                     have HK2 := Lib.hid hk2
                     clear hk2)
        go_roundw
        case rel => exact ⟨i + 1, G, hlt, rfl, by go_num, by rw [HG.out, HSN.out], (HKP.out.alloc _).trans HK2.out⟩
        case measure => simp [intOf]; omega
      | false =>
        replace hc1 : wr.cell? ⟨g, i * 2 + 1, none⟩ = some (.int .i64 0) := hc1
        obtain ⟨E, hE⟩ : ∃ E : ByteArray, E = ⟨(esc N).toArray⟩ := ⟨_, rfl⟩
        have hEd : E.data.toList = esc N := by rw [hE]
        have hEV : strV (esc N) = .string E := by rw [hE]; rfl
        have hEz : E.size ≤ 6000 := by rw [size_data, hEd]; omega
        obtain ⟨F, hF⟩ : ∃ F : ByteArray, F = ⟨(47 :: esc N).toArray⟩ := ⟨_, rfl⟩
        have hFd : F.data.toList = 47 :: esc N := by rw [hF]
        have hFz : F.size ≤ 6001 := by rw [size_data, hFd]; simp; omega
        have ha1 := add_str { data := #[47] } E F (by rw [hFd, hEd]; rfl) (by have : ({ data := #[47] } : ByteArray).size = 1 := rfl; omega)
        obtain ⟨G, hG⟩ : ∃ G : ByteArray, G = ⟨(pathL (NS.take i) ++ (47 :: txt (N, false))).toArray⟩ := ⟨_, rfl⟩
        have hGd : G.data.toList = pathL (NS.take i) ++ (47 :: txt (N, false)) := by rw [hG]
        have ha2 := add_str S F G (by rw [hGd, HS.out, hFd]; rfl) (by omega)
        have HG := Lib.hid hGd
        have HEV := Lib.hid hEV
        have HSND := Lib.hid hSNd
        clear hSN hSNd hel hhl hE hEd hEV hF hFd hG hGd
        go_wp2_with (first
          | (go_at_call 56
             refine (escape_any SN _ (HT2.out.keep ((Kp.refl (fun _ => False) wr).alloc _)) (by omega)).mono ?_
             rintro e w2 ⟨rfl, hk2⟩
             rw [HSND.out, HEV.out]
             have HK2 := Lib.hid hk2
             clear hk2)
          | go_in)
        go_roundw
        case rel => exact ⟨i + 1, G, hlt, rfl, by go_num, by rw [HG.out, HSN.out], (HKP.out.alloc _).trans HK2.out⟩
        case measure => simp [intOf]; omega
    · obtain rfl : i = n := by omega
      have hfull : NS.take i = NS := List.take_of_length_le (by rw [HLN.out, ← HN.out]; exact Nat.le_refl _)
      have HF := Lib.hid hfull
      clear hfull
      go_wp2_with fail
      go_ret
      refine ⟨?_, HKP.out⟩
      have h9 := HS.out
      rw [HF.out] at h9
      rw [← h9, ← strV_data S]
      rfl
end Go.Proofs.YtfodkjpjejoemaaGreatDoor

/-
  Paths as text: keys and how each is written, as one text, walked.
  Conditions: the keys read as bytes, the choices as booleans; the lengths are bounded.
-/
namespace Go.Proofs.YtfodkjpjejoemaaGreatDoor
open Go Go.RowKit
attribute [local go_sem ↓] Go.wp_at_zero Go.wp_at_succ

def BoolU (_ : World) (u : Value) (x : Bool) : Prop := u = .bool x
/-- a slice of booleans -/
abbrev Blns (w : World) (v : Value) (L : List Bool) : Prop := Slc BoolU w v L
theorem Blns.keep {w w' : World} {v : Value} {L : List Bool} (h : Blns w v L) (k : Keep w w') : Blns w' v L := Slc.keep h k fun _ _ h => h
theorem szBo (w : World) : (Go.sizeOf 4).run Tryz.prog w = .ok 1 w := by kernel_rfl

set_option maxRecDepth 100000 in
set_option maxHeartbeats 2000000 in
theorem keyPathText_any (v hv : Value) (KL : List (List UInt8)) (HL : List Bool) (w : World) (h1 : Mat w v KL) (h2 : Blns w hv HL) (hn : KL.length = HL.length) (hl : KL.length ≤ 300) (hb : ∀ k ∈ KL, k.length ≤ 2000) (ht : UTab w) :
    Calls Tryz.prog 25 #[v, hv] w fun e w' => e = .returned (strV (pathL (KL.zip HL))) ∧ Keep w w' := by
  have H1 := Lib.hid h1
  have H2 := Lib.hid h2
  have HT := Lib.hid ht
  have HB := Lib.hid hb
  obtain ⟨A, c, rfl, a1, a2, a3, a4⟩ := h1
  obtain ⟨B, d, rfl, b1, b2, b3, b4⟩ := h2
  obtain ⟨n, hnn⟩ : ∃ n, n = KL.length := ⟨_, rfl⟩
  have hHn : HL.length = n := by omega
  have HKN := Lib.hid hnn
  have HHN := Lib.hid hHn
  have A4 := Lib.hid a4
  have B4 := Lib.hid b4
  rw [← hnn] at a1 hl ⊢
  rw [hHn] at b1 ⊢
  unfold maxLen at a2 b2
  clear ht hb hn hnn hHn a3 a4 b3 b4
  go_enter Tryz.func25, Tryz.ntmps25
  go_wp2_with fail
  go_loopw [5, 10] (fun pv iv wr => ∃ (i : Nat) (KS : List (Value × Bool)), i ≤ n ∧ iv = .int .i64 i ∧ KS.length = i ∧ KRow wr w.heap.size pv KS ∧ (∀ k (h : k < KS.length) (h1 : k < KL.length) (h2 : k < HL.length), KS[k].2 = HL[k] ∧ Byts w KS[k].1 KL[k]) ∧ Keep w wr) (fun _ iv _ => n - (intOf iv).toNat)
  case atStart => exact ⟨0, [], Nat.zero_le _, rfl, rfl, KRow.nil_ _ _, fun k h => absurd h (by simp), Kp.refl _ _⟩
  case round =>
    obtain ⟨i, KS, hi, rfl, hkl, hrow, hel, hkp⟩ := hrel
    have HKL := Lib.hid hkl
    have HRW := Lib.hid hrow
    have HEL := Lib.hid hel
    have HKP := Lib.hid hkp
    have hws := hkp.size
    clear hkl hrow hel hkp
    by_cases hlt : i < n
    · have hiK : i < KL.length := by rw [← HKN.out]; exact hlt
      have hiH : i < HL.length := by rw [HHN.out]; exact hlt
      obtain ⟨g, off, rfl, hc⟩ := A4.out (by omega)
      obtain ⟨g2, off2, rfl, hc2⟩ := B4.out (by omega)
      obtain ⟨u, hu, hur⟩ := hc i hiK
      obtain ⟨u2, hu2, hur2⟩ := hc2 i hiH
      have hur2' : u2 = .bool HL[i] := hur2
      subst hur2'
      have hx1 := HKP.out.cell_of hu (fun x => x)
      have hx2 := HKP.out.cell_of hu2 (fun x => x)
      obtain ⟨x, hx⟩ : ∃ x, x = KL[i] := ⟨_, rfl⟩
      obtain ⟨hb, hhb⟩ : ∃ hb, hb = HL[i] := ⟨_, rfl⟩
      rw [← hx] at hur
      rw [← hhb] at hx2
      have HX := Lib.hid hx
      have HHB := Lib.hid hhb
      have HUR := Lib.hid hur
      obtain ⟨A3, c3, rfl, -, -, -, -⟩ := hur
      have hks : KS.length ≤ 1000000 := by rw [HKL.out]; omega
      have HKS := Lib.hid hks
      clear hc hc2 hu hu2 hur2 hx hhb hks
      cases hb with
      | true =>
        go_wp2_with (go_at_call 36
                     refine (appendKey_any w.heap.size _ KS A3 x.length c3 true _ HRW.out HKS.out hws).mono ?_
                     rintro e w2 ⟨v2, rfl, ho2, hk2⟩
                     have HO2 := Lib.hid ho2
                     have HK2 := Lib.hid hk2
                     clear ho2 hk2)
        go_roundw
        case rel =>
          refine ⟨i + 1, _, hlt, by go_num, by simp [HKL.out], HO2.out, ?_, HKP.out.trans' HK2.out fun j hj e => by omega⟩
          intro k hk hk1 hk2
          by_cases hki : k < KS.length
          · rw [List.getElem_append_left hki]; exact HEL.out k hki hk1 hk2
          · have hkv : k = i := by simp at hk; have := HKL.out; omega
            subst hkv
            have e1 : (KS ++ [(Value.slice A3 x.length c3, true)])[k]'hk = (.slice A3 x.length c3, true) := by
              rw [List.getElem_append_right (by omega)]; simp
            rw [e1, ← HX.out, ← HHB.out]
            exact ⟨rfl, HUR.out⟩
        case measure => simp [intOf]; omega
      | false =>
        go_wp2_with (go_at_call 36
                     refine (appendKey_any w.heap.size _ KS A3 x.length c3 false _ HRW.out HKS.out hws).mono ?_
                     rintro e w2 ⟨v2, rfl, ho2, hk2⟩
                     have HO2 := Lib.hid ho2
                     have HK2 := Lib.hid hk2
                     clear ho2 hk2)
        go_roundw
        case rel =>
          refine ⟨i + 1, _, hlt, by go_num, by simp [HKL.out], HO2.out, ?_, HKP.out.trans' HK2.out fun j hj e => by omega⟩
          intro k hk hk1 hk2
          by_cases hki : k < KS.length
          · rw [List.getElem_append_left hki]; exact HEL.out k hki hk1 hk2
          · have hkv : k = i := by simp at hk; have := HKL.out; omega
            subst hkv
            have e1 : (KS ++ [(Value.slice A3 x.length c3, false)])[k]'hk = (.slice A3 x.length c3, false) := by
              rw [List.getElem_append_right (by omega)]; simp
            rw [e1, ← HX.out, ← HHB.out]
            exact ⟨rfl, HUR.out⟩
        case measure => simp [intOf]; omega
    · obtain rfl : i = n := by omega
      have hz : (KL.zip HL).length = KS.length := by rw [List.length_zip, ← HKN.out, HHN.out, HKL.out]; omega
      have hke : ∀ k (h : k < KS.length) (h2 : k < (KL.zip HL).length), (KL.zip HL)[k].2 = KS[k].2 ∧ Byts wr KS[k].1 (KL.zip HL)[k].1 := fun k h h2 => by
        have hk1 : k < KL.length := by rw [← HKN.out, ← HKL.out]; exact h
        have hk2 : k < HL.length := by rw [HHN.out, ← HKL.out]; exact h
        have h9 := HEL.out k h hk1 hk2
        rw [List.getElem_zip]
        exact ⟨h9.1.symm, Byts.keep h9.2 HKP.out⟩
      have hkb : ∀ p ∈ KL.zip HL, p.1.length ≤ 2000 := fun p hp => HB.out _ (List.of_mem_zip hp).1
      have HSTR := Lib.hid (keyString_any w.heap.size _ KS (KL.zip HL) wr HRW.out hz (by rw [HKL.out]; omega) hke hkb (HT.out.keep HKP.out))
      clear hz hke hkb
      go_wp2_with (go_at_call 37
                   refine HSTR.out.mono ?_
                   rintro e w2 ⟨rfl, hk2⟩
                   have HK2 := Lib.hid hk2
                   clear hk2)
      go_ret
      exact ⟨rfl, HKP.out.trans HK2.out⟩

theorem pathText_any (v hv : Value) (KL : List (List UInt8)) (HL : List Bool) (w : World) (h1 : Mat w v KL) (h2 : Blns w hv HL) (hn : KL.length = HL.length) (hl : KL.length ≤ 300) (hb : ∀ k ∈ KL, k.length ≤ 2000) (ht : UTab w) :
    Calls Tryz.prog 10 #[v, hv] w fun e w' => e = .returned (strV (pathL (KL.zip HL))) ∧ Keep w w' := by
  have HP := Lib.hid (keyPathText_any v hv KL HL w h1 h2 hn hl hb ht)
  clear h1 h2 hn hl hb ht
  go_enter Tryz.func10, Tryz.ntmps10
  go_wp2_with (go_at_call 25
               refine HP.out.mono ?_
               rintro e w2 ⟨rfl, hk2⟩
               have HK2 := Lib.hid hk2
               clear hk2)
  go_ret
  exact ⟨rfl, HK2.out⟩
end Go.Proofs.YtfodkjpjejoemaaGreatDoor

/-
  Paths as text: the law FnPath walked: it answers true.
  Conditions: the arguments read as a list of slices of bytes and a list of booleans; the table's cells hold its numbers, the library's error variable holds an error.
-/
namespace Go.Proofs.YtfodkjpjejoemaaGreatDoor
open Go Go.RowKit
attribute [local go_sem ↓] Go.wp_at_zero Go.wp_at_succ

theorem zip_path (KL : List (List UInt8)) (HL : List Bool) (hn : KL.length = HL.length) (h0 : 0 < KL.length) (h : ∀ j (h1 : j < KL.length) (h2 : j < HL.length), HL[j] = false → Lib.hasPrefix KL[j] [120, 58] = false) : keysOf (pathL (KL.zip HL)) = some KL := by
  rw [keysOf_path]
  · congr 1
    exact List.map_fst_zip (by omega)
  · intro e
    have : (KL.zip HL).length = 0 := by rw [e]; rfl
    rw [List.length_zip] at this; omega
  · intro p hp hp2
    obtain ⟨j, hj, rfl⟩ := List.mem_iff_getElem.1 hp
    rw [List.length_zip] at hj
    rw [List.getElem_zip] at hp2 ⊢
    exact h j (by omega) (by omega) hp2

end Go.Proofs.YtfodkjpjejoemaaGreatDoor
