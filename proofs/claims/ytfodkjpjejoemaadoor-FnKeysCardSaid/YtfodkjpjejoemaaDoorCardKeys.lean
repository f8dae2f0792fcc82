/-
  FnKeys: for every path the law answers true, and it reads afterwards as before: the tied card.
  Conditions: the card's own: the listed table and the listed error variable read as the program's text lays them.
-/
import Derived.Test.YtfodkjpjejoemaaDoorKey8
import Derived.Test.YtfodkjpjejoemaaDoorOpen
import Derived.Lib.LaidTab
import Derived.Stop.LaidErr
import Derived.ChangeMaps5
import Derived.Test.YtfodkjpjejoemaaDoorCards
import Derived.Test.YtfodkjpjejoemaaDoorTie
import Derived.Deep.DeepHandedRow
import Derived.Deep.DeepWitnessRowRef
import Derived.LaidMore
namespace Go.Proofs.YtfodkjpjejoemaaDoor.fnKeys
open Go Go.RowKit Go.WideShapes Go.ChangeShapes Go.ChangeAt Go.Joins

theorem own : ownKnob Tryd.prog.godebug = none := by kernel_rfl
theorem gErr : Tryd.prog.globalNamed "encoding/hex.ErrLength" = some 2 := by kernel_rfl
theorem tErr : (Tryd.prog.globals[2]?).map (·.type) = some 92 := by kernel_rfl
theorem gTab : Tryd.prog.globalNamed "treesandproofs/pub/neturl.table" = some 3 := by kernel_rfl
theorem tTab : (Tryd.prog.globals[3]?).map (·.type) = some 210 := by kernel_rfl
theorem utab_of {W : World} (h : Lib.TabIs Tryd.prog W "treesandproofs/pub/neturl.table" .u8 urlTab) : UTab W := fun i hi => h.cell gTab i (by rw [urlTab_length]; exact hi)
set_option maxRecDepth 100000 in
theorem of_laid {W : World} (h : laidMetH Tryd.prog Rows.fnKeysRow.laid W) : UTab W ∧ ∃ t x, W.cell? ⟨2, 0, none⟩ = some (.iface t x) := by
  rw [MakeChecks.laidMetH_plain _ _ _ (by kernel_rfl)] at h
  have h' : laidMet Tryd.prog [("treesandproofs/pub/neturl.table", Lib.tabData .u8 urlTab)] W := h.tail
  refine ⟨utab_of (Lib.tabIs_of_head gTab tTab Tryd.underlying210 Tryd.underlying172 (by kernel_rfl) (by kernel_rfl) h'), ?_⟩
  obtain ⟨ps, ⟨g0, t0, cs0, f0, p0, q0, hg0, ht0, hv0, hd0, _, _⟩, _, _⟩ := h
  obtain rfl := Option.some.inj (gErr.symm.trans hg0)
  obtain rfl := Option.some.inj (tErr.symm.trans ht0)
  obtain ⟨u, v, hcs⟩ := iface_cell Tryd.underlying92 hd0
  have := World.var?_cell hg0 hv0 0
  rw [Array.eq_one_of_toList hcs] at this
  exact ⟨u, v, by simpa using this⟩

set_option maxRecDepth 100000 in
theorem contract (H : Type) (enc : TypeId × Value → H) (W : World) (base : Nat) (args : Array Value) (ds gs : List (DataW H)) (before : List MemPlace)
    (hval : ∀ (j : Nat) t v, Tryd.f6.params[j]? = some t → args[j]? = some v → Value.okWide Tryd.prog W .any base t v)
    (hW : DataW.Whole enc Tryd.prog Tryd.f6.params.toList Rows.fnKeysSpec.vars false W args.toList ds gs before) (hL : laidMetH Tryd.prog Rows.fnKeysRow.laid W) :
    Calls Tryd.prog 6 args W fun e W' => ∃ v, e = .returned v ∧ Rows.fnKeysSpec.post enc Tryd.prog Tryd.f6 false true false false W args v W' := by
  have hW' := hW
  obtain ⟨p, q, hA0, hV, rfl, hfz, hnd⟩ := hW
  have hA : DataW.TrodAll enc Tryd.prog W 0 (fun _ => true) true Tryd.f6.params.toList args.toList ds p := hA0
  rw [Tryd.params6] at hA hval
  obtain ⟨v0, vs0, d0, ds0, p0, q0, hargs, rfl, rfl, h0, r0⟩ := trodAll_cons hA
  obtain ⟨rfl, rfl, rfl⟩ := trodAll_nil r0
  obtain rfl : args = #[v0] := by cases args; simp_all
  obtain ⟨rfl, rfl⟩ := trodVars_none hV
  have hv0 : Value.okWide Tryd.prog W .any base 9 v0 := hval 0 9 v0 rfl rfl
  obtain ⟨s, rfl, rfl, rfl, hs⟩ := Go.ChangeMaps.open_string Tryd.underlying9 hv0 h0
  obtain ⟨hk1, t, x, hx⟩ := of_laid hL
  clear hA0 hV
  have hA' : DataW.TrodAll enc Tryd.prog W 0 (fun _ => true) true [9] [.string s] [.lit (.string s.data.toList)] ([] ++ []) := hA
  simp only [List.append_nil] at hW' hA'
  refine (fnKeys_walk s W hk1 t x hx).mono fun e W' ⟨he, hk⟩ => ?_
  subst he
  exact ⟨_, rfl, post_of_below (pa := []) (pv := []) hW' (fun _ _ _ => trodAll_cons_mk (shut_bool Tryd.underlying4 _) trodAll_mk0)
    (fun sp hsp => trodAll_stays laidOut hk.below _ _ [.lit (.string s.data.toList)] _ (by kernel_rfl) hA' (fun x hx => by cases hx) (fun x hx => by cases hx)) (fun _ _ => rfl) (by simp)
    hk.below (ok_one (by kernel_rfl) rfl (okWide_bool_mk Tryd.underlying4 _))⟩

noncomputable def start (os : Os) : World := World.doorLaid Tryd.prog 91 os
noncomputable def zero : Array Value := #[.string ⟨#[]⟩]
theorem reads (os : Os) {H : Type} (enc : TypeId × Value → H) : ∃ places, DataW.whole enc Tryd.prog ((start os).forCall (fun _ _ => 0) ⟨#[], zero, []⟩).memory Tryd.f6.params.toList Rows.fnKeysSpec.vars false zero.toList 8 = some ([.lit (.string [])], [], places) :=
  ⟨[], by kernel_rfl⟩
theorem met (os : Os) (args : Array Value) : laidMetH Tryd.prog Rows.fnKeysRow.laid ((World.doorLaid Tryd.prog 91 os).forCall (fun _ _ => 0) ⟨#[], args, []⟩).memory :=
  laidMetH_of_parts3 (fuel := 8) (laidMet_of_run' 8 (by kernel_rfl) (by kernel_rfl)) (by kernel_rfl) (by kernel_rfl)

set_option maxRecDepth 100000 in
theorem lifted (os : Os) (started : os.Started) (H : Type) (enc : TypeId × Value → H) (F : Stop.Interp) :
    ReturnsInHanded {} Tryd.checked os 6 .any ((OpenSpec.ofChange Rows.fnKeysSpec).preRow enc Tryd.prog Tryd.f6 Rows.fnKeysRow.domain false Rows.fnKeysRow.laid) (((OpenSpec.ofChange Rows.fnKeysSpec).at F).post enc Tryd.prog Tryd.f6 false true false false) := by
  obtain ⟨places, hx⟩ := reads os enc
  refine returnsInHanded_of_row (C := Tryd.checked) (s := OpenSpec.ofChange Rows.fnKeysSpec) own started (by kernel_rfl) Tryd.func6
    (witness_row_atRef (enc := enc) (C := Tryd.checked) false (start os) zero rfl (by kernel_rfl) (by kernel_rfl) (by kernel_rfl)
      (OpenSpec.preRow_of_cond 8 hx (by kernel_rfl) (fun k hk => by cases hk) (by kernel_rfl) (met os zero))) ?_
  intro W base args ds gs before hval hW _ _ _ hL _ _
  exact contract H enc W base args ds gs before hval hW hL

theorem said : Rows.FnKeysSaid :=
  OpenClaim.holds_of_cond 6 Tryd.f6 rfl rfl rfl rfl rfl rfl rfl ⟨rfl, rfl, rfl, rfl, rfl⟩ rfl rfl rfl rfl rfl (by kernel_rfl) Tryd.func6 (by kernel_rfl)
    (of_decide_eq_true (by kernel_rfl)) (by unfold Func.isWrapper; first | (rw [if_pos (by decide +kernel)]; kernel_rfl) | (rw [if_neg (by decide +kernel)]; exact ⟨rfl, rfl⟩))
    (fun os started H enc _ F => by rw [OpenClaim.pre_eq_preRow]; exact lifted os started H enc F)

theorem plain (f : FuncId) (fn : Func) (hf : Tryd.pinned.checked.prog.funcNamed "treesandproofs/laws.FnKeys" = some f) (hfn : Tryd.pinned.checked.prog.funcs[f]? = some fn) :
    false = Tryd.pinned.checked.prog.looks [] ∧ ∀ (j : Nat) t, fn.params[j]? = some t → Tryd.pinned.checked.prog.wantsStandIn t = false := by
  obtain rfl : f = 6 := Option.some.inj ((show Tryd.prog.funcNamed "treesandproofs/laws.FnKeys" = some 6 by kernel_rfl).symm.trans hf) |>.symm
  obtain rfl : fn = Tryd.f6 := (Option.some.inj (Tryd.func6.symm.trans hfn)).symm
  refine ⟨by kernel_rfl, fun j t ht => ?_⟩
  rw [Tryd.params6] at ht
  obtain rfl : t = 9 := by simpa using Array.mem_of_getElem? ht
  exact (show Tryd.prog.wantsStandIn 9 = false by kernel_rfl)

theorem card : Rows.FnKeysCardSaid :=
  Claim7.holds_tied_plain_at .later [] _ _ _ _ said (fun _ h => by cases h) (by kernel_rfl) (fun _ h => by cases h) fnKeys_row_tie rfl ⟨rfl, rfl⟩ (by kernel_rfl) rfl plain (by kernel_rfl)
#print axioms card
end Go.Proofs.YtfodkjpjejoemaaDoor.fnKeys
