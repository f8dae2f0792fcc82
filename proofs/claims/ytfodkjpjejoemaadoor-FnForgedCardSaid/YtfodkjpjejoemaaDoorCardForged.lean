/-
  FnForged: for all items, numbers and bytes the law answers true, and they read afterwards as before: the tied card.
  Conditions: the card's own: the listed table reads as the program's text lays it.
-/
import Derived.Test.YtfodkjpjejoemaaDoorForged
import Derived.Test.YtfodkjpjejoemaaDoorLaidK
import Derived.Test.YtfodkjpjejoemaaDoorOpen
import Derived.Test.YtfodkjpjejoemaaDoorCards
import Derived.Test.YtfodkjpjejoemaaDoorTie
import Derived.Deep.DeepHandedRow
import Derived.Deep.DeepWitnessRowRef
import Derived.LaidMore
namespace Go.Proofs.YtfodkjpjejoemaaDoor.fnForged
open Go Go.RowKit Go.WideShapes Go.ChangeShapes Go.ChangeAt Go.Joins

theorem own : ownKnob Tryd.prog.godebug = none := by kernel_rfl
theorem of_laid {W : World} (h : laidMetH Tryd.prog Rows.fnForgedRow.laid W) : KTab W := ktab_head (rest := []) h
set_option maxRecDepth 100000 in
theorem contract (H : Type) (enc : TypeId × Value → H) (W : World) (base : Nat) (args : Array Value) (ds gs : List (DataW H)) (before : List MemPlace)
    (hval : ∀ (j : Nat) t v, Tryd.f9.params[j]? = some t → args[j]? = some v → Value.okWide Tryd.prog W .any base t v)
    (hW : DataW.Whole enc Tryd.prog Tryd.f9.params.toList Rows.fnForgedSpec.vars false W args.toList ds gs before) (hL : laidMetH Tryd.prog Rows.fnForgedRow.laid W) :
    Calls Tryd.prog 9 args W fun e W' => ∃ v, e = .returned v ∧ Rows.fnForgedSpec.post enc Tryd.prog Tryd.f9 false true false false W args v W' := by
  have hW' := hW
  obtain ⟨p, q, hA0, hV, rfl, hfz, hnd⟩ := hW
  have hA : DataW.TrodAll enc Tryd.prog W 0 (fun _ => true) true Tryd.f9.params.toList args.toList ds p := hA0
  rw [Tryd.params9] at hA hval
  obtain ⟨v0, vs0, d0, ds0, p0, q0, hargs, rfl, rfl, h0, r0⟩ := trodAll_cons hA
  obtain ⟨v1, vs1, d1, ds1, p1, q1, rfl, rfl, rfl, h1, r1⟩ := trodAll_cons r0
  obtain ⟨v2, vs2, d2, ds2, p2, q2, rfl, rfl, rfl, h2, r2⟩ := trodAll_cons r1
  obtain ⟨v3, vs3, d3, ds3, p3, q3, rfl, rfl, rfl, h3, r3⟩ := trodAll_cons r2
  obtain ⟨v4, vs4, d4, ds4, p4, q4, rfl, rfl, rfl, h4, r4⟩ := trodAll_cons r3
  obtain ⟨rfl, rfl, rfl⟩ := trodAll_nil r4
  obtain rfl : args = #[v0, v1, v2, v3, v4] := by cases args; simp_all
  obtain ⟨rfl, rfl⟩ := trodVars_none hV
  have hv0 : Value.okWide Tryd.prog W .any base 23 v0 := hval 0 23 v0 rfl rfl
  obtain ⟨f0, hf0⟩ := trod_of_slice Tryd.underlying23 hv0 h0
  obtain ⟨L0, hL0⟩ := open_mat Tryd.underlying23 (by kernel_rfl) Tryd.underlying22 (by kernel_rfl) Tryd.underlying5 hf0
  obtain ⟨z1, rfl, hd1, hp1, wz1⟩ := open_int Tryd.underlying3 (hval 1 3 v1 rfl rfl) h1
  have bz1 := bounds_i64 wz1
  obtain ⟨z2, rfl, hd2, hp2, wz2⟩ := open_int Tryd.underlying3 (hval 2 3 v2 rfl rfl) h2
  have bz2 := bounds_i64 wz2
  obtain ⟨z3, rfl, hd3, hp3, wz3⟩ := open_int Tryd.underlying3 (hval 3 3 v3 rfl rfl) h3
  have bz3 := bounds_i64 wz3
  have hv4 : Value.okWide Tryd.prog W .any base 22 v4 := hval 4 22 v4 rfl rfl
  obtain ⟨f4, hf4⟩ := trod_of_slice Tryd.underlying22 hv4 h4
  obtain ⟨L4, hL4⟩ := open_byts Tryd.underlying22 (by kernel_rfl) Tryd.underlying5 hf4
  have hk0 := of_laid hL
  clear hA0 hV
  have hA' : DataW.TrodAll enc Tryd.prog W 0 (fun _ => true) true [23, 3, 3, 3, 22] [v0, .int .i64 z1, .int .i64 z2, .int .i64 z3, v4] [d0, d1, d2, d3, d4] (p0 ++ (p1 ++ (p2 ++ (p3 ++ (p4 ++ []))))) := hA
  simp only [List.append_nil] at hW' hA'
  have hlt : ∀ x ∈ p0 ++ (p1 ++ (p2 ++ (p3 ++ p4))), x.block < W.heap.size := fun x hx => hW'.lt x hx
  refine ((fnForged_walk _ _ L0 L4 z1 z2 z3 W hL0 hL4 hk0 bz1.1 bz1.2 bz2.1 bz2.2 bz3.1 bz3.2)).mono fun e W' ⟨he, hk⟩ => ?_
  subst he
  exact ⟨_, rfl, post_of_below (pa := p0 ++ (p1 ++ (p2 ++ (p3 ++ p4)))) (pv := []) hW' (fun _ _ _ => trodAll_cons_mk (shut_bool Tryd.underlying4 _) trodAll_mk0)
    (fun sp hsp => trodAll_stays laidOut hk.below _ _ [d0, d1, d2, d3, d4] _ (by kernel_rfl) hA' hlt (fun x hx => hsp x hx)) (fun _ _ => rfl) (by simp)
    hk.below (ok_one (by kernel_rfl) rfl (okWide_bool_mk Tryd.underlying4 _))⟩

noncomputable def start (os : Os) : World := World.doorLaid Tryd.prog 91 os
noncomputable def zero : Array Value := #[.slice none 0 0, .int .i64 0, .int .i64 0, .int .i64 0, .slice none 0 0]
theorem reads (os : Os) {H : Type} (enc : TypeId × Value → H) : ∃ places, DataW.whole enc Tryd.prog ((start os).forCall (fun _ _ => 0) ⟨#[], zero, []⟩).memory Tryd.f9.params.toList Rows.fnForgedSpec.vars false zero.toList 8 = some ([.nil, .lit (.int .i64 0), .lit (.int .i64 0), .lit (.int .i64 0), .nil], [], places) :=
  ⟨[], by kernel_rfl⟩
theorem met (os : Os) (args : Array Value) : laidMetH Tryd.prog Rows.fnForgedRow.laid ((World.doorLaid Tryd.prog 91 os).forCall (fun _ _ => 0) ⟨#[], args, []⟩).memory :=
  laidMetH_of_parts3 (fuel := 8) (laidMet_of_run' 8 (by kernel_rfl) (by kernel_rfl)) (by kernel_rfl) (by kernel_rfl)

set_option maxRecDepth 100000 in
theorem lifted (os : Os) (started : os.Started) (H : Type) (enc : TypeId × Value → H) (F : Stop.Interp) :
    ReturnsInHanded {} Tryd.checked os 9 .any ((OpenSpec.ofChange Rows.fnForgedSpec).preRow enc Tryd.prog Tryd.f9 Rows.fnForgedRow.domain false Rows.fnForgedRow.laid) (((OpenSpec.ofChange Rows.fnForgedSpec).at F).post enc Tryd.prog Tryd.f9 false true false false) := by
  obtain ⟨places, hx⟩ := reads os enc
  refine returnsInHanded_of_row (C := Tryd.checked) (s := OpenSpec.ofChange Rows.fnForgedSpec) own started (by kernel_rfl) Tryd.func9
    (witness_row_atRef (enc := enc) (C := Tryd.checked) false (start os) zero rfl (by kernel_rfl) (by kernel_rfl) (by kernel_rfl)
      (OpenSpec.preRow_of_cond 8 hx (by kernel_rfl) (fun k hk => by cases hk) (by kernel_rfl) (met os zero))) ?_
  intro W base args ds gs before hval hW _ _ _ hL _ _
  exact contract H enc W base args ds gs before hval hW hL

theorem said : Rows.FnForgedSaid :=
  OpenClaim.holds_of_cond 9 Tryd.f9 rfl rfl rfl rfl rfl rfl rfl ⟨rfl, rfl, rfl, rfl, rfl⟩ rfl rfl rfl rfl rfl (by kernel_rfl) Tryd.func9 (by kernel_rfl)
    (of_decide_eq_true (by kernel_rfl)) (by unfold Func.isWrapper; first | (rw [if_pos (by decide +kernel)]; kernel_rfl) | (rw [if_neg (by decide +kernel)]; exact ⟨rfl, rfl⟩))
    (fun os started H enc _ F => by rw [OpenClaim.pre_eq_preRow]; exact lifted os started H enc F)

theorem plain (f : FuncId) (fn : Func) (hf : Tryd.pinned.checked.prog.funcNamed "treesandproofs/laws.FnForged" = some f) (hfn : Tryd.pinned.checked.prog.funcs[f]? = some fn) :
    false = Tryd.pinned.checked.prog.looks [] ∧ ∀ (j : Nat) t, fn.params[j]? = some t → Tryd.pinned.checked.prog.wantsStandIn t = false := by
  obtain rfl : f = 9 := Option.some.inj ((show Tryd.prog.funcNamed "treesandproofs/laws.FnForged" = some 9 by kernel_rfl).symm.trans hf) |>.symm
  obtain rfl : fn = Tryd.f9 := (Option.some.inj (Tryd.func9.symm.trans hfn)).symm
  refine ⟨by kernel_rfl, fun j t ht => ?_⟩
  rw [Tryd.params9] at ht
  have hj : j = 0 ∨ j = 1 ∨ j = 2 ∨ j = 3 ∨ j = 4 ∨ 5 ≤ j := by omega
  rcases hj with rfl | rfl | rfl | rfl | rfl | hj
  · obtain rfl : t = 23 := by simpa using ht.symm
    exact (show Tryd.prog.wantsStandIn 23 = false by kernel_rfl)
  · obtain rfl : t = 3 := by simpa using ht.symm
    exact (show Tryd.prog.wantsStandIn 3 = false by kernel_rfl)
  · obtain rfl : t = 3 := by simpa using ht.symm
    exact (show Tryd.prog.wantsStandIn 3 = false by kernel_rfl)
  · obtain rfl : t = 3 := by simpa using ht.symm
    exact (show Tryd.prog.wantsStandIn 3 = false by kernel_rfl)
  · obtain rfl : t = 22 := by simpa using ht.symm
    exact (show Tryd.prog.wantsStandIn 22 = false by kernel_rfl)
  · rw [Array.getElem?_eq_none (by simpa using hj)] at ht; cases ht

theorem card : Rows.FnForgedCardSaid :=
  Claim7.holds_tied_plain_at .later [] _ _ _ _ said (fun _ h => by cases h) (by kernel_rfl) (fun _ h => by cases h) fnForged_row_tie rfl ⟨rfl, rfl⟩ (by kernel_rfl) rfl plain (by kernel_rfl)
#print axioms card
end Go.Proofs.YtfodkjpjejoemaaDoor.fnForged
