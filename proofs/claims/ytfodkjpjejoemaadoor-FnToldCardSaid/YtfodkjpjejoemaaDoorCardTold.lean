/-
  FnTold: for every list of bits and every number the law answers true, and the list reads afterwards as before: the tied card.
  Conditions: the card's own: the listed tables read as the program's text lays them.
-/
import Derived.Test.YtfodkjpjejoemaaDoorTold9
import Derived.Lib.LaidTab
import Derived.Stop.LaidErr
import Derived.ChangeMaps5
import Derived.Test.YtfodkjpjejoemaaDoorOpen
import Derived.Test.YtfodkjpjejoemaaDoorCards
import Derived.Test.YtfodkjpjejoemaaDoorTie
import Derived.Deep.DeepHandedRow
import Derived.Deep.DeepWitnessRowRef
import Derived.LaidMore
namespace Go.Proofs.YtfodkjpjejoemaaDoor.fnTold
open Go Go.RowKit Go.WideShapes Go.ChangeShapes Go.ChangeAt Go.Joins

theorem own : ownKnob Tryd.prog.godebug = none := by kernel_rfl
theorem tPow : (Tryd.prog.globals[6]?).map (·.type) = some 220 := by kernel_rfl
set_option maxRecDepth 100000 in
theorem of_laid {W : World} (h : laidMetH Tryd.prog Rows.fnToldRow.laid W) : Lib.TabIs Tryd.prog W "internal/strconv.uint64pow10" .u64 Lib.pow10Tab := by
  rw [MakeChecks.laidMetH_plain _ _ _ (by kernel_rfl)] at h
  have h2 : laidMet Tryd.prog [("internal/strconv.uint64pow10", Lib.tabData .u64 Lib.pow10Tab)] W := (show laidMet Tryd.prog (_ :: [("internal/strconv.uint64pow10", Lib.tabData .u64 Lib.pow10Tab)]) W from h.tail).tail
  exact Lib.tabIs_of_head gPow tPow Tryd.underlying220 Tryd.underlying125 (by kernel_rfl) (by kernel_rfl) h2
theorem open_bls {H : Type} {enc : TypeId × Value → H} {w : World} {base : Nat} {spare : Nat → Bool} {held : Bool} {fuel : Nat} {v : Value} {x : DataW H × List MemPlace}
    (h : DataW.trod enc Tryd.prog w base spare held fuel 50 [v] = some x) : ∃ L, Bools w v L :=
  open_slc BoolR Tryd.underlying50 (by kernel_rfl) (fun _ _ _ h => by
    obtain ⟨b, hb, _⟩ := DataW.trod_bool Tryd.underlying4 h
    exact ⟨b, by simpa [BoolR] using hb⟩) h
set_option maxRecDepth 100000 in
theorem contract (H : Type) (enc : TypeId × Value → H) (W : World) (base : Nat) (args : Array Value) (ds gs : List (DataW H)) (before : List MemPlace)
    (hval : ∀ (j : Nat) t v, Tryd.f11.params[j]? = some t → args[j]? = some v → Value.okWide Tryd.prog W .any base t v)
    (hW : DataW.Whole enc Tryd.prog Tryd.f11.params.toList Rows.fnToldSpec.vars false W args.toList ds gs before) (hL : laidMetH Tryd.prog Rows.fnToldRow.laid W) :
    Calls Tryd.prog 11 args W fun e W' => ∃ v, e = .returned v ∧ Rows.fnToldSpec.post enc Tryd.prog Tryd.f11 false true false false W args v W' := by
  have hW' := hW
  obtain ⟨p, q, hA0, hV, rfl, hfz, hnd⟩ := hW
  have hA : DataW.TrodAll enc Tryd.prog W 0 (fun _ => true) true Tryd.f11.params.toList args.toList ds p := hA0
  rw [Tryd.params11] at hA hval
  obtain ⟨v0, vs0, d0, ds0, p0, q0, hargs, rfl, rfl, h0, r0⟩ := trodAll_cons hA
  obtain ⟨v1, vs1, d1, ds1, p1, q1, rfl, rfl, rfl, h1, r1⟩ := trodAll_cons r0
  obtain ⟨rfl, rfl, rfl⟩ := trodAll_nil r1
  obtain rfl : args = #[v0, v1] := by cases args; simp_all
  obtain ⟨rfl, rfl⟩ := trodVars_none hV
  have hv0 : Value.okWide Tryd.prog W .any base 50 v0 := hval 0 50 v0 rfl rfl
  obtain ⟨f0, hf0⟩ := trod_of_slice Tryd.underlying50 hv0 h0
  obtain ⟨L0, hL0⟩ := open_bls hf0
  obtain ⟨z1, rfl, hd1, hp1, wz1⟩ := open_int Tryd.underlying3 (hval 1 3 v1 rfl rfl) h1
  have bz1 := bounds_i64 wz1
  have hk0 := of_laid hL
  clear hA0 hV
  have hA' : DataW.TrodAll enc Tryd.prog W 0 (fun _ => true) true [50, 3] [v0, .int .i64 z1] [d0, d1] (p0 ++ (p1 ++ [])) := hA
  simp only [List.append_nil] at hW' hA'
  have hlt : ∀ x ∈ p0 ++ p1, x.block < W.heap.size := fun x hx => hW'.lt x hx
  refine ((fnTold_walk _ L0 z1 W hL0 hk0 bz1.1 bz1.2)).mono fun e W' ⟨he, hk⟩ => ?_
  subst he
  exact ⟨_, rfl, post_of_below (pa := p0 ++ p1) (pv := []) hW' (fun _ _ _ => trodAll_cons_mk (shut_bool Tryd.underlying4 _) trodAll_mk0)
    (fun sp hsp => trodAll_stays laidOut hk.below _ _ [d0, d1] _ (by kernel_rfl) hA' hlt (fun x hx => hsp x hx)) (fun _ _ => rfl) (by simp)
    hk.below (ok_one (by kernel_rfl) rfl (okWide_bool_mk Tryd.underlying4 _))⟩

noncomputable def start (os : Os) : World := World.doorLaid Tryd.prog 91 os
noncomputable def zero : Array Value := #[.slice none 0 0, .int .i64 0]
theorem reads (os : Os) {H : Type} (enc : TypeId × Value → H) : ∃ places, DataW.whole enc Tryd.prog ((start os).forCall (fun _ _ => 0) ⟨#[], zero, []⟩).memory Tryd.f11.params.toList Rows.fnToldSpec.vars false zero.toList 8 = some ([.nil, .lit (.int .i64 0)], [], places) :=
  ⟨[], by kernel_rfl⟩
theorem met (os : Os) (args : Array Value) : laidMetH Tryd.prog Rows.fnToldRow.laid ((World.doorLaid Tryd.prog 91 os).forCall (fun _ _ => 0) ⟨#[], args, []⟩).memory :=
  laidMetH_of_parts3 (fuel := 8) (laidMet_of_run' 8 (by kernel_rfl) (by kernel_rfl)) (by kernel_rfl) (by kernel_rfl)

set_option maxRecDepth 100000 in
theorem lifted (os : Os) (started : os.Started) (H : Type) (enc : TypeId × Value → H) (F : Stop.Interp) :
    ReturnsInHanded {} Tryd.checked os 11 .any ((OpenSpec.ofChange Rows.fnToldSpec).preRow enc Tryd.prog Tryd.f11 Rows.fnToldRow.domain false Rows.fnToldRow.laid) (((OpenSpec.ofChange Rows.fnToldSpec).at F).post enc Tryd.prog Tryd.f11 false true false false) := by
  obtain ⟨places, hx⟩ := reads os enc
  refine returnsInHanded_of_row (C := Tryd.checked) (s := OpenSpec.ofChange Rows.fnToldSpec) own started (by kernel_rfl) Tryd.func11
    (witness_row_atRef (enc := enc) (C := Tryd.checked) false (start os) zero rfl (by kernel_rfl) (by kernel_rfl) (by kernel_rfl)
      (OpenSpec.preRow_of_cond 8 hx (by kernel_rfl) (fun k hk => by cases hk) (by kernel_rfl) (met os zero))) ?_
  intro W base args ds gs before hval hW _ _ _ hL _ _
  exact contract H enc W base args ds gs before hval hW hL

theorem said : Rows.FnToldSaid :=
  OpenClaim.holds_of_cond 11 Tryd.f11 rfl rfl rfl rfl rfl rfl rfl ⟨rfl, rfl, rfl, rfl, rfl⟩ rfl rfl rfl rfl rfl (by kernel_rfl) Tryd.func11 (by kernel_rfl)
    (of_decide_eq_true (by kernel_rfl)) (by unfold Func.isWrapper; first | (rw [if_pos (by decide +kernel)]; kernel_rfl) | (rw [if_neg (by decide +kernel)]; exact ⟨rfl, rfl⟩))
    (fun os started H enc _ F => by rw [OpenClaim.pre_eq_preRow]; exact lifted os started H enc F)

theorem plain (f : FuncId) (fn : Func) (hf : Tryd.pinned.checked.prog.funcNamed "treesandproofs/laws.FnTold" = some f) (hfn : Tryd.pinned.checked.prog.funcs[f]? = some fn) :
    false = Tryd.pinned.checked.prog.looks [] ∧ ∀ (j : Nat) t, fn.params[j]? = some t → Tryd.pinned.checked.prog.wantsStandIn t = false := by
  obtain rfl : f = 11 := Option.some.inj ((show Tryd.prog.funcNamed "treesandproofs/laws.FnTold" = some 11 by kernel_rfl).symm.trans hf) |>.symm
  obtain rfl : fn = Tryd.f11 := (Option.some.inj (Tryd.func11.symm.trans hfn)).symm
  refine ⟨by kernel_rfl, fun j t ht => ?_⟩
  rw [Tryd.params11] at ht
  have hj : j = 0 ∨ j = 1 ∨ 2 ≤ j := by omega
  rcases hj with rfl | rfl | hj
  · obtain rfl : t = 50 := by simpa using ht.symm
    exact (show Tryd.prog.wantsStandIn 50 = false by kernel_rfl)
  · obtain rfl : t = 3 := by simpa using ht.symm
    exact (show Tryd.prog.wantsStandIn 3 = false by kernel_rfl)
  · rw [Array.getElem?_eq_none (by simpa using hj)] at ht; cases ht

theorem card : Rows.FnToldCardSaid :=
  Claim7.holds_tied_plain_at .later [] _ _ _ _ said (fun _ h => by cases h) (by kernel_rfl) (fun _ h => by cases h) fnTold_row_tie rfl ⟨rfl, rfl⟩ (by kernel_rfl) rfl plain (by kernel_rfl)
#print axioms card
end Go.Proofs.YtfodkjpjejoemaaDoor.fnTold
