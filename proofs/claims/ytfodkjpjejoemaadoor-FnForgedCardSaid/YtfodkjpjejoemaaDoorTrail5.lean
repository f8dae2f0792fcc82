/-
  Proofs of a tree's leaves: the package's list of proofs walked.
  Conditions: the argument reads as a list of slices of bytes; SHA-256's table holds its numbers.
-/
import Derived.Test.YtfodkjpjejoemaaDoorTrail4
import Derived.Test.YtfodkjpjejoemaaDoorOurs
namespace Go.Proofs.YtfodkjpjejoemaaDoor
open Go Go.RowKit
attribute [local go_sem ↓] Go.wp_at_zero Go.wp_at_succ

/-- the proof of leaf j -/
def prfOf (L : List (List UInt8)) (j : Nat) : Prf := ⟨(L.length : Nat), (j : Nat), leafS (L.getD j []), auntsS L j⟩

theorem Slc.off {α : Type} {R : World → Value → α → Prop} {w w' : World} {v : Value} {L : List α} {P : Nat} {cs : List Value} {T : TypeId} (h : Slc R w v L) (hb : w.heap[P]? = some (.cells cs.toArray T (0, 0))) (hc : ∀ u ∈ cs, ∀ x, ¬ R w u x) (k : Kp (fun j => j = P) w w')
    (hR : ∀ u x, R w u x → R w' u x) : Slc R w' v L := by
  obtain ⟨A, c, hv, h1, h2, h3, h4⟩ := h
  refine ⟨A, c, hv, h1, h2, h3, fun hn => ?_⟩
  obtain ⟨b, off, hA, hcc⟩ := h4 hn
  refine ⟨b, off, hA, fun i hi => ?_⟩
  obtain ⟨u, hu, hr⟩ := hcc i hi
  refine ⟨u, k.cell_of hu (fun e => ?_), hR _ _ hr⟩
  have e' : b = P := e
  subst e'
  rw [cell_of_row _ _ _ _ _ _ hb] at hu
  have hm : u ∈ cs := by
    have : cs[off + i]? = some u := by simpa using hu
    exact List.mem_of_getElem? this
  exact hc u hm _ hr
theorem Byts.off {w w' : World} {v : Value} {L : List UInt8} {P : Nat} {cs : List Value} {T : TypeId} (h : Byts w v L) (hb : w.heap[P]? = some (.cells cs.toArray T (0, 0))) (hc : ∀ u ∈ cs, ∃ o, u = .pointer o) (k : Kp (fun j => j = P) w w') : Byts w' v L :=
  Slc.off h hb (fun u hu x hr => by
    obtain ⟨o, rfl⟩ := hc u hu
    have hr' : Value.pointer o = .int .u8 x.toNat := hr
    cases hr') k fun _ _ h => h
theorem Mat.off {w w' : World} {v : Value} {L : List (List UInt8)} {P : Nat} {cs : List Value} {T : TypeId} (h : Mat w v L) (hb : w.heap[P]? = some (.cells cs.toArray T (0, 0))) (hc : ∀ u ∈ cs, ∃ o, u = .pointer o) (k : Kp (fun j => j = P) w w') : Mat w' v L :=
  Slc.off h hb (fun u hu x hr => by
    obtain ⟨o, rfl⟩ := hc u hu
    obtain ⟨A, c, hv, _⟩ := hr
    cases hv) k fun u x h => Byts.off h hb hc k
theorem PrfAt.off {w w' : World} {q : Nat} {p : Prf} {P : Nat} {cs : List Value} {T : TypeId} (h : PrfAt w q p) (hq : q ≠ P) (hb : w.heap[P]? = some (.cells cs.toArray T (0, 0))) (hc : ∀ u ∈ cs, ∃ o, u = .pointer o) (k : Kp (fun j => j = P) w w') : PrfAt w' q p := by
  obtain ⟨lv, av, c0, c1, c2, c3, hl, ha, hn⟩ := h
  exact ⟨lv, av, k.cell_of c0 hq, k.cell_of c1 hq, k.cell_of c2 hq, k.cell_of c3 hq, hl.off hb hc k, ha.off hb hc k, hn⟩
theorem PrfAt.keep {w w' : World} {q : Nat} {p : Prf} (h : PrfAt w q p) (k : Keep w w') : PrfAt w' q p := by
  obtain ⟨lv, av, c0, c1, c2, c3, hl, ha, hn⟩ := h
  exact ⟨lv, av, k.cell_of c0 (fun x => x), k.cell_of c1 (fun x => x), k.cell_of c2 (fun x => x), k.cell_of c3 (fun x => x), Byts.keep hl k, Mat.keep ha k, hn⟩

set_option maxRecDepth 100000 in
set_option maxHeartbeats 1000000 in
theorem trails_zero (bd : Nat) (v : Value) (w : World) (hv : Mat w v []) (hK : KTab w) :
    Calls Tryd.prog 128 #[hshV bd, v] w fun e w' => ∃ tv r hv, e = .returned (.tuple #[.slice (some ⟨tv, 0, none⟩) 0 0, ptrV r]) ∧ Node w' r hv (.pointer none) (.pointer none) (.pointer none) ∧ Byts w' hv (rootS []) ∧ Keep w w' := by
  obtain ⟨A, c, rfl, h1, h2, h3, h4⟩ := hv
  have HK := Lib.hid hK
  clear h3 h4 hK
  go_enter Tryd.func128, Tryd.ntmps128
  go_wp2_with (go_at_call 122
               refine (emptyHash_any _ (HK.out.keep ((Kp.refl (fun _ => False) w).alloc _) (fun x => x))).mono ?_
               rintro e w1 ⟨v1, rfl, hb1, hk1⟩
               have HB1 := Lib.hid hb1
               have HK1 := Lib.hid hk1
               obtain ⟨g, off, c1, rfl, hB, -⟩ := hb1
               clear hk1)
  go_ret2
  obtain ⟨n1, hn1⟩ : ∃ n1, n1 = (sha []).length := ⟨_, rfl⟩
  have hr : rootS [] = sha [] := rfl
  have kz : Keep w (w.alloc (.cells #[] 144)) := (Kp.refl _ _).alloc _
  have ka : Keep w1 (w1.alloc (.cells #[.slice (some ⟨g, off, none⟩) (sha []).length c1, .pointer none, .pointer none, .pointer none] 148)) := (Kp.refl _ _).alloc _
  exact ⟨w.heap.size, w1.heap.size, _, rfl, heap_alloc_new _ _, by rw [hr]; exact HB1.out.byts.keep ka, (kz.trans HK1.out).trans ka⟩

set_option maxHeartbeats 1000000 in
theorem trailsFrom_any (v : Value) (L : List (List UInt8)) (w : World) (hv : Mat w v L) (hL1 : 1 ≤ L.length) (hK : KTab w) (hL : L.length ≤ 1000000) (hb : ∀ x ∈ L, x.length ≤ 1073741824) :
    Calls Tryd.prog 98 #[v] w fun e w' => ∃ tv r bd lo, e = .returned (.tuple #[tv, ptrV r]) ∧ Forest w' bd lo tv L r ∧ w.heap.size ≤ bd ∧ bd < lo ∧ Keep w w' := by
  have HV := Lib.hid hv
  have HK := Lib.hid hK
  have HB := Lib.hid hb
  clear hv hK hb
  unfold ptrV
  go_enter Tryd.func98, Tryd.ntmps98
  go_wp2_with (first
    | (go_at_call 129
       refine (newHash_any _).mono ?_
       rintro e w1 ⟨b, rfl, hb1, hd1, hk1⟩
       have hbl : b < w1.heap.size := hd1.lt
       have HD1 := Lib.hid hd1
       have HK1 := Lib.hid hk1
       clear hd1 hk1)
    | (go_at_call 128
       refine (trails_n b L.length L v _ (Nat.le_refl _) hL1 (MatB.of HV.out HK1.out hb1) ⟨_, HD1.out⟩ (HK.out.keep HK1.out (fun x => x)) hL HB.out).mono ?_
       rintro e w2 ⟨tv, r, rfl, ho2, hd2, hk2⟩
       unfold ptrV
       have HO2 := Lib.hid ho2
       have HK2 := Lib.hid hk2
       clear ho2 hd2 hk2))
  go_ret2
  exact ⟨tv, r, b, w1.heap.size, rfl, HO2.out, hb1, hbl, HK1.out.trans' HK2.out fun i hi e => by omega⟩

set_option maxHeartbeats 1000000 in
theorem trailsFrom_zero (v : Value) (w : World) (hv : Mat w v []) (hK : KTab w) :
    Calls Tryd.prog 98 #[v] w fun e w' => ∃ tv r hv, e = .returned (.tuple #[.slice (some ⟨tv, 0, none⟩) 0 0, ptrV r]) ∧ Node w' r hv (.pointer none) (.pointer none) (.pointer none) ∧ Byts w' hv (rootS []) ∧ Keep w w' := by
  have HV := Lib.hid hv
  have HK := Lib.hid hK
  clear hv hK
  unfold ptrV
  go_enter Tryd.func98, Tryd.ntmps98
  go_wp2_with (first
    | (go_at_call 129
       refine (newHash_any _).mono ?_
       rintro e w1 ⟨b, rfl, hb1, hd1, hk1⟩
       have HK1 := Lib.hid hk1
       clear hd1 hk1)
    | (go_at_call 128
       refine (trails_zero b v _ (Mat.keep HV.out HK1.out) (HK.out.keep HK1.out (fun x => x))).mono ?_
       rintro e w2 ⟨tv, r, hr, rfl, hn2, hb2, hk2⟩
       unfold ptrV
       have HN2 := Lib.hid hn2
       have HB2 := Lib.hid hb2
       have HK2 := Lib.hid hk2
       clear hn2 hb2 hk2))
  go_ret2
  exact ⟨tv, r, hr, rfl, HN2.out, HB2.out, HK1.out.trans HK2.out⟩
end Go.Proofs.YtfodkjpjejoemaaDoor
