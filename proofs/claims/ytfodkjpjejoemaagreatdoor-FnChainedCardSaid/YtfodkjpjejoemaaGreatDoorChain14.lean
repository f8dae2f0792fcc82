
/-
  Chains: operations checked along a path: the calls around it, the thin package's.
  Conditions: the operations read as keys and well-formed proofs; the tables hold what they hold.
-/
import Derived.Test.YtfodkjpjejoemaaGreatDoorChain13
namespace Go.Proofs.YtfodkjpjejoemaaGreatDoor
open Go Go.RowKit
attribute [local go_sem ↓] Go.wp_at_zero Go.wp_at_succ

/-- operations in a row: three cells each -/
def cellsO (L : List (Value × Value)) : List Value := L.flatMap fun p => [(.string ⟨#[115, 105, 109, 112, 108, 101, 58, 118]⟩), p.1, p.2]
theorem cellsO_length (L : List (Value × Value)) : (cellsO L).length = L.length * 3 := by
  induction L with
  | nil => rfl
  | cons p r ih => show (_ :: _ :: _ :: cellsO r).length = _; simp [ih]; omega
theorem cellsO_snoc (L : List (Value × Value)) (p : Value × Value) : cellsO (L ++ [p]) = cellsO L ++ [(.string ⟨#[115, 105, 109, 112, 108, 101, 58, 118]⟩), p.1, p.2] := by
  unfold cellsO; rw [List.flatMap_append]; simp
theorem cellsO_at (L : List (Value × Value)) (i : Nat) (h : i < L.length) : (cellsO L)[i * 3]? = some (.string ⟨#[115, 105, 109, 112, 108, 101, 58, 118]⟩) ∧ (cellsO L)[i * 3 + 1]? = some L[i].1 ∧ (cellsO L)[i * 3 + 2]? = some L[i].2 := by
  induction L generalizing i with
  | nil => simp at h
  | cons p r ih =>
    have e : cellsO (p :: r) = (.string ⟨#[115, 105, 109, 112, 108, 101, 58, 118]⟩) :: p.1 :: p.2 :: cellsO r := rfl
    rw [e]
    cases i with
    | zero => simp
    | succ i =>
      have := ih i (by simpa using h)
      rw [show (i + 1) * 3 = i * 3 + 3 by omega, show i * 3 + 3 + 1 = i * 3 + 1 + 3 by omega, show i * 3 + 3 + 2 = i * 3 + 2 + 3 by omega]
      simpa using this
def ORow (T : TypeId) (w : World) (B : Nat) (v : Value) (L : List (Value × Value)) : Prop := w.ownsRow B T 3 v L.length (cellsO L)
theorem ORow.nil_ (T : TypeId) (w : World) (B : Nat) : ORow T w B (.slice none 0 0) [] := ⟨by simp [cellsO], .inl ⟨rfl, rfl⟩⟩
theorem ORow.keep {T : TypeId} {w w' : World} {B : Nat} {v : Value} {L : List (Value × Value)} (h : ORow T w B v L) (k : Keep w w') : ORow T w' B v L := by
  refine ⟨h.1, ?_⟩
  rcases h.2 with h2 | ⟨g, cap, cur, rfl, hb, hh, h3, h4, h5, h6⟩
  · exact .inl h2
  · exact .inr ⟨g, cap, cur, rfl, hb, (k.block g (lt_of_block hh) (fun x => x)).trans hh, h3, h4, h5, h6⟩
theorem ORow.form {T : TypeId} {w : World} {B : Nat} {v : Value} {L : List (Value × Value)} (h : ORow T w B v L) : ∃ A c, v = .slice A L.length c ∧ L.length ≤ c ∧ c ≤ maxLen := by
  rcases h.2 with ⟨rfl, h0⟩ | ⟨g, cap, cur, rfl, hb, hh, h3, h4, h5, h6⟩
  · exact ⟨none, 0, by rw [h0], by omega, by simp [maxLen]⟩
  · exact ⟨_, cap, rfl, h3, h4⟩
/-- what a row of operations holds -/
def OHas (w : World) (L : List (Value × Value)) (O : List Opn) : Prop := L.length = O.length ∧ ∀ i (h : i < L.length) (h2 : i < O.length), Byts w L[i].1 O[i].key ∧ Byts w L[i].2 (opMsg O[i].key O[i].prf)
theorem OHas.keep {w w' : World} {L : List (Value × Value)} {O : List Opn} (h : OHas w L O) (k : Keep w w') : OHas w' L O := ⟨h.1, fun i h1 h2 => ⟨(h.2 i h1 h2).1.keep k, (h.2 i h1 h2).2.keep k⟩⟩
theorem OHas.snoc {w : World} {L : List (Value × Value)} {O : List Opn} {kv dv : Value} {o : Opn} (h : OHas w L O) (hk : Byts w kv o.key) (hd : Byts w dv (opMsg o.key o.prf)) : OHas w (L ++ [(kv, dv)]) (O ++ [o]) := by
  refine ⟨by simp [h.1], fun i h1 h2 => ?_⟩
  rcases getElem_snoc L (kv, dv) i h1 with ⟨h', e⟩ | ⟨e', e⟩
  · have e2 : (O ++ [o])[i] = O[i]'(by rw [← h.1]; exact h') := List.getElem_append_left _
    rw [e, e2]; exact h.2 i h' _
  · have e2 : (O ++ [o])[i] = o := by subst e'; rw [List.getElem_append_right (by rw [h.1]; omega)]; simp [h.1]
    rw [e, e2]; exact ⟨hk, hd⟩
theorem ORow.ops {T : TypeId} {w : World} {B : Nat} {v : Value} {L : List (Value × Value)} {O : List Opn} (h : ORow T w B v L) (hh : OHas w L O) : OpsAt w v O := by
  obtain ⟨hl, hc⟩ := hh
  rcases h.2 with ⟨rfl, h0⟩ | ⟨g, cap, cur, rfl, hb, hb2, h3, h4, h5, h6⟩
  · exact ⟨none, 0, by rw [← hl, h0], by omega, by simp [maxLen], fun hp => by omega⟩
  · refine ⟨some ⟨g, 0, none⟩, cap, by rw [hl], by omega, h4, fun hp => ⟨g, rfl, fun i hi => ?_⟩⟩
    have hiL : i < L.length := by omega
    have ha := cellsO_at L i hiL
    have h7 : ∀ k, k < L.length * 3 → cur[k]? = (cellsO L)[k]? := fun k hk => by
      rw [← h6, List.getElem?_take_of_lt hk]; simp
    obtain ⟨hk, hd⟩ := hc i hiL hi
    exact ⟨L[i].1, L[i].2, by rw [cell_of_row _ _ _ _ _ _ hb2, h7 _ (by omega)]; exact ha.1, by rw [cell_of_row _ _ _ _ _ _ hb2, h7 _ (by omega)]; exact ha.2.1, by rw [cell_of_row _ _ _ _ _ _ hb2, h7 _ (by omega)]; exact ha.2.2, hk, hd⟩

/-- what the checking of a chain looks up -/
structure Env (w : World) : Prop where
  u : UTab w
  k : KTab w
  e1 : ∃ t x, w.cell? ⟨4, 0, none⟩ = some (.iface t x)
  e2 : ∃ t x, w.cell? ⟨0, 0, none⟩ = some (.iface t x)
  e3 : ∃ t x, w.cell? ⟨3, 0, none⟩ = some (.iface t x)
theorem Env.keep {w w' : World} (h : Env w) (k : Keep w w') : Env w' := by
  obtain ⟨h1, h2, ⟨t3, x3, h3⟩, ⟨t4, x4, h4⟩, ⟨t5, x5, h5⟩⟩ := h
  exact ⟨h1.kpS k (fun x => x), h2.keep k (fun x => x), ⟨t3, x3, k.cell_of h3 (fun x => x)⟩, ⟨t4, x4, k.cell_of h4 (fun x => x)⟩, ⟨t5, x5, k.cell_of h5 (fun x => x)⟩⟩

set_option maxRecDepth 100000 in
set_option maxHeartbeats 2000000 in
theorem rtVerify_any (br bo : Nat) (ov rv av : Value) (s : ByteArray) (O : List Opn) (root v : List UInt8) (w : World) (hR : RtAt w br) (hc : w.cell? ⟨bo, 0, none⟩ = some ov) (ho : OpsAt w ov O) (hr : Byts w rv root) (ha : Mat w av [v]) (hok : ∀ o ∈ O, OpnOk o) (hn : O.length ≤ 1000000) (hvl : v.length ≤ 4294960000)
    (hs : s.size ≤ 1099511626776) (hE : Env w) :
    Calls Tryz.prog 49 #[.pointer (some ⟨br, 0, none⟩), .pointer (some ⟨bo, 0, none⟩), rv, .string s, av] w fun e w' => (∃ ev, e = .returned ev ∧ ErrIs (!chainB O root s.data.toList v) ev) ∧ Keep w w' := by
  obtain ⟨t3, x3, h3⟩ := hE.e3
  have DEC := Lib.hid (decodeProof_any br bo ov O w hR hc ho hok hn t3 x3 h3)
  have HR := Lib.hid hr
  have HA := Lib.hid ha
  have HOK := Lib.hid hok
  have HE := Lib.hid hE
  obtain ⟨Ar, cr, rfl, -, -, -, -⟩ := hr
  obtain ⟨Aa, ca, rfl, -, -, -, -⟩ := ha
  obtain ⟨Bc, hBc⟩ : ∃ B, B = chainB O root s.data.toList v := ⟨_, rfl⟩
  have HBC := Lib.hid hBc
  rw [← hBc]
  clear hR hc ho hok hE h3 hBc
  go_enter Tryz.func49, Tryz.ntmps49
  go_wp2_with (first
    | (go_at_call 60
       refine DEC.out.mono ?_
       rintro e w1 ⟨⟨pv, rfl, hp⟩, hk1⟩
       have HP := Lib.hid hp
       have HK1 := Lib.hid hk1
       have HE1 := Lib.hid (HE.out.keep hk1)
       clear hp hk1)
    | (go_at_call 61
       obtain ⟨t4, x4, h4⟩ := HE1.out.e1
       obtain ⟨t5, x5, h5⟩ := HE1.out.e2
       refine (opsVerify_any pv _ _ s O root v _ HP.out (HR.out.keep HK1.out) (HA.out.keep HK1.out) HOK.out hn hvl hs HE1.out.u HE1.out.k t4 x4 h4 t5 x5 h5).mono ?_
       rintro e w2 ⟨⟨ev, rfl, hev⟩, hk2⟩
       rw [← HBC.out] at hev
       have HEV := Lib.hid hev
       have HK2 := Lib.hid hk2
       clear hev hk2))
  go_ret
  exact ⟨⟨ev, rfl, HEV.out⟩, HK1.out.trans HK2.out⟩

theorem mat_one {w : World} {vv : Value} {v : List UInt8} (t : TypeId) (h : Byts w vv v) : Mat (w.alloc (.cells #[vv] t)) (.slice (some ⟨w.heap.size, 0, none⟩) 1 1) [v] := by
  refine ⟨some ⟨w.heap.size, 0, none⟩, 1, rfl, Nat.le_refl _, by simp [maxLen], (fun e => by cases e), fun _ => ⟨w.heap.size, 0, rfl, fun i hi => ?_⟩⟩
  obtain rfl : i = 0 := by simpa using hi
  exact ⟨vv, by simp, h.keep ((Kp.refl _ _).alloc _)⟩

set_option maxRecDepth 100000 in
set_option maxHeartbeats 2000000 in
theorem verifyValue_any (br bo : Nat) (ov rv vv : Value) (s : ByteArray) (O : List Opn) (root v : List UInt8) (w : World) (hR : RtAt w br) (hc : w.cell? ⟨bo, 0, none⟩ = some ov) (ho : OpsAt w ov O) (hr : Byts w rv root) (ha : Byts w vv v) (hok : ∀ o ∈ O, OpnOk o) (hn : O.length ≤ 1000000) (hvl : v.length ≤ 4294960000)
    (hs : s.size ≤ 1099511626776) (hE : Env w) :
    Calls Tryz.prog 39 #[.pointer (some ⟨br, 0, none⟩), .pointer (some ⟨bo, 0, none⟩), rv, .string s, vv] w fun e w' => (∃ ev, e = .returned ev ∧ ErrIs (!chainB O root s.data.toList v) ev) ∧ Keep w w' := by
  have hk1 : Keep w (w.alloc (.cells #[vv] 24)) := (Kp.refl _ _).alloc _
  have VER := Lib.hid (rtVerify_any br bo ov rv (.slice (some ⟨w.heap.size, 0, none⟩) 1 1) s O root v (w.alloc (.cells #[vv] 24)) (hR.keep hk1) (hk1.cell_of hc (fun x => x)) (ho.keep hk1) (hr.keep hk1) (mat_one _ ha) hok hn hvl hs (hE.keep hk1))
  have HK1 := Lib.hid hk1
  obtain ⟨Ar, cr, rfl, -, -, -, -⟩ := hr
  obtain ⟨Av, cv, rfl, -, -, -, -⟩ := ha
  obtain ⟨Bc, hBc⟩ : ∃ B, B = chainB O root s.data.toList v := ⟨_, rfl⟩
  rw [← hBc] at VER ⊢
  clear hR hc ho hok hE hk1 hBc
  go_enter Tryz.func39, Tryz.ntmps39
  go_wp2_with (go_at_call 49
               refine VER.out.mono ?_
               rintro e w2 ⟨⟨ev, rfl, hev⟩, hk2⟩
               have HEV := Lib.hid hev
               have HK2 := Lib.hid hk2
               clear hev hk2)
  go_ret
  exact ⟨⟨ev, rfl, HEV.out⟩, HK1.out.trans HK2.out⟩

set_option maxRecDepth 100000 in
set_option maxHeartbeats 2000000 in
theorem verifyOps_any (ov rv vv : Value) (s : ByteArray) (O : List Opn) (root v : List UInt8) (w : World) (ho : OpsAt w ov O) (hr : Byts w rv root) (ha : Byts w vv v) (hok : ∀ o ∈ O, OpnOk o) (hn : O.length ≤ 1000000) (hvl : v.length ≤ 4294960000)
    (hs : s.size ≤ 1099511626776) (hE : Env w) :
    Calls Tryz.prog 27 #[ov, rv, .string s, vv] w fun e w' => e = .returned (.bool (chainB O root s.data.toList v)) ∧ Keep w w' := by
  have HO := Lib.hid ho
  have HR := Lib.hid hr
  have HA := Lib.hid ha
  have HOK := Lib.hid hok
  have HE := Lib.hid hE
  obtain ⟨Ao, co, rfl, -, -, -⟩ := ho
  obtain ⟨Ar, cr, rfl, -, -, -, -⟩ := hr
  obtain ⟨Av, cv, rfl, -, -, -, -⟩ := ha
  obtain ⟨Bc, hBc⟩ : ∃ B, B = chainB O root s.data.toList v := ⟨_, rfl⟩
  have HBC := Lib.hid hBc
  rw [← hBc]
  clear hok hE hBc
  cases hb : Bc
  all_goals
    have HB := Lib.hid hb
    clear hb
    go_enter Tryz.func27, Tryz.ntmps27
    go_wp2_with (first
      | (go_at_call 38
         refine (runtime_any _).mono ?_
         rintro e w1 ⟨⟨br, rfl, hbr⟩, hk1⟩
         have HRT := Lib.hid hbr
         have HK1 := Lib.hid hk1
         clear hbr hk1)
      | (go_at_call 39
         obtain ⟨w2, hw2⟩ : ∃ w2, w2 = w1.alloc (.cells #[.slice Ao O.length co] 98) := ⟨_, rfl⟩
         rw [← hw2]
         have hk2 : Keep w1 w2 := by rw [hw2]; exact (Kp.refl _ _).alloc _
         have hc2 : w2.cell? ⟨w1.heap.size, 0, none⟩ = some (.slice Ao O.length co) := by rw [hw2]; simp
         have hkk : Keep w w2 := HK1.out.trans hk2
         refine (verifyValue_any br w1.heap.size _ _ _ s O root v _ (HRT.out.keep hk2) hc2 (HO.out.keep hkk) (HR.out.keep hkk) (HA.out.keep hkk) HOK.out hn hvl hs (HE.out.keep hkk)).mono ?_
         rintro e w3 ⟨⟨ev, rfl, hev⟩, hk3⟩
         rw [← HBC.out, HB.out] at hev
         have HK3 := Lib.hid (hkk.trans hk3)
         first | (obtain ⟨te, xe, rfl⟩ := hev) | (obtain rfl := hev)
         clear hw2 hk2 hc2 hkk hk3))
    go_ret
    exact ⟨rfl, HK3.out⟩
end Go.Proofs.YtfodkjpjejoemaaGreatDoor
