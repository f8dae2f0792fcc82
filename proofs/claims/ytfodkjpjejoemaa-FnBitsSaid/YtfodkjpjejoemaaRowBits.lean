/-
  FnBits: for every two lists of bits the law answers true, and the lists read afterwards as before.
  Conditions: none beside the form's own.
-/
import Derived.Test.YtfodkjpjejoemaaFnBits
import Derived.Test.YtfodkjpjejoemaaOpen
import Derived.Test.YtfodkjpjejoemaaRows
import Derived.Deep.DeepHandedRow
import Derived.Deep.DeepWitnessRowRef
import Derived.LaidMore
namespace Go.Proofs.Ytfodkjpjejoemaa.fnBits
open Go Go.RowKit Go.WideShapes Go.ChangeShapes Go.ChangeAt Go.Joins

theorem own : ownKnob Try.prog.godebug = none := by kernel_rfl

theorem open_bools {H : Type} {enc : TypeId × Value → H} {w : World} {base : Nat} {spare : Nat → Bool} {held : Bool} {fuel : Nat} {v : Value} {x : DataW H × List MemPlace}
    (h : DataW.trod enc Try.prog w base spare held fuel 22 [v] = some x) : ∃ L, Bools w v L :=
  open_slc BoolR Try.underlying22 (by kernel_rfl) (fun _ _ _ h => by
    obtain ⟨b, hb, _⟩ := DataW.trod_bool Try.underlying4 h
    exact ⟨b, by simpa [BoolR] using hb⟩) h

set_option maxRecDepth 100000 in
theorem contract (H : Type) (enc : TypeId × Value → H) (W : World) (base : Nat) (args : Array Value) (ds gs : List (DataW H)) (before : List MemPlace)
    (hval : ∀ (j : Nat) t v, Try.f4.params[j]? = some t → args[j]? = some v → Value.okWide Try.prog W .any base t v)
    (hW : DataW.Whole enc Try.prog Try.f4.params.toList Rows.fnBitsSpec.vars false W args.toList ds gs before) :
    Calls Try.prog 4 args W fun e W' => ∃ v, e = .returned v ∧ Rows.fnBitsSpec.post enc Try.prog Try.f4 false true false false W args v W' := by
  have hW' := hW
  obtain ⟨p, q, hA0, hV, rfl, hfz, hnd⟩ := hW
  have hA : DataW.TrodAll enc Try.prog W 0 (fun _ => true) true Try.f4.params.toList args.toList ds p := hA0
  rw [Try.params4] at hA hval
  obtain ⟨v0, vs0, d0, ds0, p0, q0, hargs, rfl, rfl, h0, r0⟩ := trodAll_cons hA
  obtain ⟨v1, vs1, d1, ds1, p1, q1, rfl, rfl, rfl, h1, r1⟩ := trodAll_cons r0
  obtain ⟨rfl, rfl, rfl⟩ := trodAll_nil r1
  obtain rfl : args = #[v0, v1] := by cases args; simp_all
  obtain ⟨rfl, rfl⟩ := trodVars_none hV
  have hv0 : Value.okWide Try.prog W .any base 22 v0 := hval 0 22 v0 rfl rfl
  have hv1 : Value.okWide Try.prog W .any base 22 v1 := hval 1 22 v1 rfl rfl
  obtain ⟨f0, hf0⟩ := trod_of_slice Try.underlying22 hv0 h0
  obtain ⟨f1, hf1⟩ := trod_of_slice Try.underlying22 hv1 h1
  obtain ⟨L, hL⟩ := open_bools hf0
  obtain ⟨L', hL'⟩ := open_bools hf1
  clear hA0 hV
  have hA' : DataW.TrodAll enc Try.prog W 0 (fun _ => true) true [22, 22] [v0, v1] [d0, d1] (p0 ++ (p1 ++ [])) := hA
  simp only [List.append_nil] at hW' hA'
  have hlt : ∀ x ∈ p0 ++ p1, x.block < W.heap.size := fun x hx => hW'.lt x hx
  refine (fnBits_walk _ _ L L' W hL hL').mono fun e W' ⟨he, hk⟩ => ?_
  subst he
  exact ⟨_, rfl, post_of_below (pa := p0 ++ p1) (pv := []) hW' (fun _ _ _ => trodAll_cons_mk (shut_bool Try.underlying4 _) trodAll_mk0)
    (fun sp hsp => trodAll_stays laidOut hk.below _ _ [d0, d1] _ (by kernel_rfl) hA' hlt (fun x hx => hsp x hx)) (fun _ _ => rfl) (by simp)
    hk.below (ok_one (by kernel_rfl) rfl (okWide_bool_mk Try.underlying4 _))⟩

noncomputable def start (os : Os) : World := World.holding Try.prog os ⟨#[], #[], []⟩
noncomputable def zero : Array Value := #[.slice none 0 0, .slice none 0 0]
theorem reads (os : Os) {H : Type} (enc : TypeId × Value → H) : ∃ places, DataW.whole enc Try.prog ((start os).forCall (fun _ _ => 0) ⟨#[], zero, []⟩).memory Try.f4.params.toList Rows.fnBitsSpec.vars false zero.toList 8 = some ([.nil, .nil], [], places) :=
  ⟨[], by kernel_rfl⟩
theorem met (os : Os) : laidMet Try.prog Rows.fnBitsRow.laid ((start os).forCall (fun _ _ => 0) ⟨#[], zero, []⟩).memory :=
  laidMet_of_run' 8 (by kernel_rfl) (by kernel_rfl)

set_option maxRecDepth 100000 in
theorem lifted (os : Os) (started : os.Started) (H : Type) (enc : TypeId × Value → H) (F : Stop.Interp) :
    ReturnsInHanded {} Try.checked os 4 .any ((OpenSpec.ofChange Rows.fnBitsSpec).preRow enc Try.prog Try.f4 Rows.fnBitsRow.domain false Rows.fnBitsRow.laid) (((OpenSpec.ofChange Rows.fnBitsSpec).at F).post enc Try.prog Try.f4 false true false false) := by
  obtain ⟨places, hx⟩ := reads os enc
  refine returnsInHanded_of_row (C := Try.checked) (s := OpenSpec.ofChange Rows.fnBitsSpec) own started (by kernel_rfl) Try.func4
    (witness_row_at (enc := enc) (C := Try.checked) false (start os) zero rfl (by kernel_rfl) (by kernel_rfl) (by kernel_rfl)
      (OpenSpec.preRow_of_cond 8 hx (by kernel_rfl) (fun k hk => by cases hk) (by kernel_rfl) (met os))) ?_
  intro W base args ds gs before hval hW _ _ _ _ _ _
  exact contract H enc W base args ds gs before hval hW

theorem said : Rows.FnBitsSaid :=
  OpenClaim.holds_of_cond 4 Try.f4 rfl rfl rfl rfl rfl rfl rfl ⟨rfl, rfl, rfl, rfl, rfl⟩ rfl rfl rfl rfl rfl (by kernel_rfl) Try.func4 (by kernel_rfl)
    (of_decide_eq_true (by kernel_rfl)) (by unfold Func.isWrapper; first | (rw [if_pos (by decide +kernel)]; kernel_rfl) | (rw [if_neg (by decide +kernel)]; exact ⟨rfl, rfl⟩))
    (fun os started H enc _ F => by rw [OpenClaim.pre_eq_preRow]; exact lifted os started H enc F)
#print axioms said
end Go.Proofs.Ytfodkjpjejoemaa.fnBits
