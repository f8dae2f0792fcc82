
/-
  FnChained: for all keys, values, places, bytes and texts the law answers true, and they read afterwards as before: the tied card.
  Conditions: the card's own: the listed tables and error variables read as the program's text lays them.
-/
import Derived.Test.YtfodkjpjejoemaaGreatDoorChain16
import Derived.Test.YtfodkjpjejoemaaGreatDoorLaidK
import Derived.Lib.LaidTab
import Derived.Stop.LaidErr
import Derived.ChangeMaps5
import Derived.Test.YtfodkjpjejoemaaGreatDoorOpen
import Derived.Test.YtfodkjpjejoemaaGreatDoorCards
import Derived.Test.YtfodkjpjejoemaaGreatDoorTie
import Derived.Deep.DeepHandedRow
import Derived.Deep.DeepWitnessRowRef
import Derived.LaidMore
namespace Go.Proofs.YtfodkjpjejoemaaGreatDoor.fnChained
open Go Go.RowKit Go.WideShapes Go.ChangeShapes Go.ChangeAt Go.Joins

theorem own : ownKnob Tryz.prog.godebug = none := by kernel_rfl
theorem gU : Tryz.prog.globalNamed "treesandproofs/pub/neturl.table" = some 1 := by kernel_rfl
theorem tU : (Tryz.prog.globals[1]?).map (·.type) = some 165 := by kernel_rfl
theorem gE1 : Tryz.prog.globalNamed "encoding/hex.ErrLength" = some 4 := by kernel_rfl
theorem tE1 : (Tryz.prog.globals[4]?).map (·.type) = some 85 := by kernel_rfl
theorem gE2 : Tryz.prog.globalNamed "treesandproofs/pub/cometmerkle.ErrKeyPathNotConsumed" = some 0 := by kernel_rfl
theorem tE2 : (Tryz.prog.globals[0]?).map (·.type) = some 85 := by kernel_rfl
theorem gE3 : Tryz.prog.globalNamed "treesandproofs/pub/cometmerkle.ErrMaxAuntsLenExceeded" = some 3 := by kernel_rfl
theorem tE3 : (Tryz.prog.globals[3]?).map (·.type) = some 85 := by kernel_rfl
theorem err_head {W : World} {n nm : String} {g : Nat} {d : DataW Unit} {rest : List (String × DataW Unit)} (hg : Tryz.prog.globalNamed n = some g) (ht : (Tryz.prog.globals[g]?).map (·.type) = some 85) (h : laidMet Tryz.prog ((n, .iface nm d) :: rest) W) : ∃ t x, W.cell? ⟨g, 0, none⟩ = some (.iface t x) := by
  obtain ⟨ps, ⟨g0, t0, cs0, f0, p0, q0, hg0, ht0, hv0, hd0, _, _⟩, _, _⟩ := h
  obtain rfl := Option.some.inj (hg.symm.trans hg0)
  obtain rfl := Option.some.inj (ht.symm.trans ht0)
  obtain ⟨u, v, hcs⟩ := iface_cell Tryz.underlying85 hd0
  have := World.var?_cell hg0 hv0 0
  rw [Array.eq_one_of_toList hcs] at this
  exact ⟨u, v, by simpa using this⟩
set_option maxRecDepth 100000 in
theorem of_laid {W : World} (h : laidMetH Tryz.prog Rows.fnChainedRow.laid W) : Env W := by
  rw [MakeChecks.laidMetH_plain _ _ _ (by kernel_rfl)] at h
  have h0 : laidMet Tryz.prog (("treesandproofs/pub/sha256._K", Lib.tabData .u32 kInts) :: ("encoding/hex.ErrLength", Rows.laid_encoding_hex_ErrLength) :: ("treesandproofs/pub/neturl.table", Lib.tabData .u8 urlTab) :: ("treesandproofs/pub/cometmerkle.ErrMaxAuntsLenExceeded", Rows.laid_treesandproofs_pub_cometmerkle_ErrMaxAuntsLenExceeded) :: ("treesandproofs/pub/cometmerkle.ErrKeyPathNotConsumed", Rows.laid_treesandproofs_pub_cometmerkle_ErrKeyPathNotConsumed) :: [("treesandproofs/pub/cometmerkle.errWire", Rows.laid_treesandproofs_pub_cometmerkle_errWire)]) W := h
  have h1 := h0.tail
  have h2 := h1.tail
  have h3 := h2.tail
  have h4 := h3.tail
  exact ⟨fun i hi => (Lib.tabIs_of_head gU tU Tryz.underlying165 Tryz.underlying123 (by kernel_rfl) (by kernel_rfl) h2).cell gU i (by rw [urlTab_length]; exact hi), ktab_head h0, err_head gE1 tE1 h1, err_head gE2 tE2 h4, err_head gE3 tE3 h3⟩
theorem open_intR {H : Type} {enc : TypeId × Value → H} {w : World} {base : Nat} {spare : Nat → Bool} {held : Bool} {fuel : Nat} {u : Value} {x : DataW H × List MemPlace}
    (h : DataW.trod enc Tryz.prog w base spare held fuel 3 [u] = some x) : ∃ z, IntR w u z := by
  obtain ⟨n, hu, _, hw⟩ := DataW.trod_int Tryz.underlying3 h
  have hb := bounds_i64 hw
  exact ⟨n, by simpa using hu, hb.1, hb.2⟩
theorem open_nts {H : Type} {enc : TypeId × Value → H} {w : World} {base : Nat} {spare : Nat → Bool} {held : Bool} {fuel : Nat} {v : Value} {x : DataW H × List MemPlace}
    (h : DataW.trod enc Tryz.prog w base spare held fuel 23 [v] = some x) : ∃ L, Ints w v L :=
  open_slc IntR Tryz.underlying23 (by kernel_rfl) (fun _ _ _ h => open_intR h) h
set_option maxRecDepth 100000 in
theorem contract (H : Type) (enc : TypeId × Value → H) (W : World) (base : Nat) (args : Array Value) (ds gs : List (DataW H)) (before : List MemPlace)
    (hval : ∀ (j : Nat) t v, Tryz.f3.params[j]? = some t → args[j]? = some v → Value.okWide Tryz.prog W .any base t v)
    (hW : DataW.Whole enc Tryz.prog Tryz.f3.params.toList Rows.fnChainedSpec.vars false W args.toList ds gs before) (hL : laidMetH Tryz.prog Rows.fnChainedRow.laid W) :
    Calls Tryz.prog 3 args W fun e W' => ∃ v, e = .returned v ∧ Rows.fnChainedSpec.post enc Tryz.prog Tryz.f3 false true false false W args v W' := by
  have hW' := hW
  obtain ⟨p, q, hA0, hV, rfl, hfz, hnd⟩ := hW
  have hA : DataW.TrodAll enc Tryz.prog W 0 (fun _ => true) true Tryz.f3.params.toList args.toList ds p := hA0
  rw [Tryz.params3] at hA hval
  obtain ⟨v0, vs0, d0, ds0, p0, q0, hargs, rfl, rfl, h0, r0⟩ := trodAll_cons hA
  obtain ⟨v1, vs1, d1, ds1, p1, q1, rfl, rfl, rfl, h1, r1⟩ := trodAll_cons r0
  obtain ⟨v2, vs2, d2, ds2, p2, q2, rfl, rfl, rfl, h2, r2⟩ := trodAll_cons r1
  obtain ⟨v3, vs3, d3, ds3, p3, q3, rfl, rfl, rfl, h3, r3⟩ := trodAll_cons r2
  obtain ⟨v4, vs4, d4, ds4, p4, q4, rfl, rfl, rfl, h4, r4⟩ := trodAll_cons r3
  obtain ⟨v5, vs5, d5, ds5, p5, q5, rfl, rfl, rfl, h5, r5⟩ := trodAll_cons r4
  obtain ⟨rfl, rfl, rfl⟩ := trodAll_nil r5
  obtain rfl : args = #[v0, v1, v2, v3, v4, v5] := by cases args; simp_all
  obtain ⟨rfl, rfl⟩ := trodVars_none hV
  have hv0 : Value.okWide Tryz.prog W .any base 22 v0 := hval 0 22 v0 rfl rfl
  obtain ⟨f0, hf0⟩ := trod_of_slice Tryz.underlying22 hv0 h0
  obtain ⟨L0, hL0⟩ := open_mat Tryz.underlying22 (by kernel_rfl) Tryz.underlying24 (by kernel_rfl) Tryz.underlying5 hf0
  have hv1 : Value.okWide Tryz.prog W .any base 22 v1 := hval 1 22 v1 rfl rfl
  obtain ⟨f1, hf1⟩ := trod_of_slice Tryz.underlying22 hv1 h1
  obtain ⟨L1, hL1⟩ := open_mat Tryz.underlying22 (by kernel_rfl) Tryz.underlying24 (by kernel_rfl) Tryz.underlying5 hf1
  have hv2 : Value.okWide Tryz.prog W .any base 23 v2 := hval 2 23 v2 rfl rfl
  obtain ⟨f2, hf2⟩ := trod_of_slice Tryz.underlying23 hv2 h2
  obtain ⟨L2, hL2⟩ := open_nts hf2
  have hv3 : Value.okWide Tryz.prog W .any base 24 v3 := hval 3 24 v3 rfl rfl
  obtain ⟨f3, hf3⟩ := trod_of_slice Tryz.underlying24 hv3 h3
  obtain ⟨L3, hL3⟩ := open_byts Tryz.underlying24 (by kernel_rfl) Tryz.underlying5 hf3
  have hv4 : Value.okWide Tryz.prog W .any base 24 v4 := hval 4 24 v4 rfl rfl
  obtain ⟨f4, hf4⟩ := trod_of_slice Tryz.underlying24 hv4 h4
  obtain ⟨L4, hL4⟩ := open_byts Tryz.underlying24 (by kernel_rfl) Tryz.underlying5 hf4
  obtain ⟨s5, rfl, hd5, hp5, wz5⟩ := Go.ChangeMaps.open_string Tryz.underlying9 (hval 5 9 v5 rfl rfl) h5
  have hk0 := of_laid hL
  clear hA0 hV
  have hA' : DataW.TrodAll enc Tryz.prog W 0 (fun _ => true) true [22, 22, 23, 24, 24, 9] [v0, v1, v2, v3, v4, .string s5] [d0, d1, d2, d3, d4, d5] (p0 ++ (p1 ++ (p2 ++ (p3 ++ (p4 ++ (p5 ++ [])))))) := hA
  simp only [List.append_nil] at hW' hA'
  have hlt : ∀ x ∈ p0 ++ (p1 ++ (p2 ++ (p3 ++ (p4 ++ p5)))), x.block < W.heap.size := fun x hx => hW'.lt x hx
  refine ((fnChained_walk _ _ _ _ _ L0 L1 L2 L3 L4 s5 W hL0 hL1 hL2 hL3 hL4 hk0)).mono fun e W' ⟨he, hk⟩ => ?_
  subst he
  exact ⟨_, rfl, post_of_below (pa := p0 ++ (p1 ++ (p2 ++ (p3 ++ (p4 ++ p5))))) (pv := []) hW' (fun _ _ _ => trodAll_cons_mk (shut_bool Tryz.underlying4 _) trodAll_mk0)
    (fun sp hsp => trodAll_stays laidOut hk.below _ _ [d0, d1, d2, d3, d4, d5] _ (by kernel_rfl) hA' hlt (fun x hx => hsp x hx)) (fun _ _ => rfl) (by simp)
    hk.below (ok_one (by kernel_rfl) rfl (okWide_bool_mk Tryz.underlying4 _))⟩

noncomputable def start (os : Os) : World := World.doorLaid Tryz.prog 133 os
noncomputable def zero : Array Value := #[.slice none 0 0, .slice none 0 0, .slice none 0 0, .slice none 0 0, .slice none 0 0, .string ⟨#[]⟩]
theorem reads (os : Os) {H : Type} (enc : TypeId × Value → H) : ∃ places, DataW.whole enc Tryz.prog ((start os).forCall (fun _ _ => 0) ⟨#[], zero, []⟩).memory Tryz.f3.params.toList Rows.fnChainedSpec.vars false zero.toList 8 = some ([.nil, .nil, .nil, .nil, .nil, .lit (.string [])], [], places) :=
  ⟨[], by kernel_rfl⟩
theorem met (os : Os) (args : Array Value) : laidMetH Tryz.prog Rows.fnChainedRow.laid ((World.doorLaid Tryz.prog 133 os).forCall (fun _ _ => 0) ⟨#[], args, []⟩).memory :=
  laidMetH_of_parts3 (fuel := 8) (laidMet_of_run' 8 (by kernel_rfl) (by kernel_rfl)) (by kernel_rfl) (by kernel_rfl)

set_option maxRecDepth 100000 in
theorem lifted (os : Os) (started : os.Started) (H : Type) (enc : TypeId × Value → H) (F : Stop.Interp) :
    ReturnsInHanded {} Tryz.checked os 3 .any ((OpenSpec.ofChange Rows.fnChainedSpec).preRow enc Tryz.prog Tryz.f3 Rows.fnChainedRow.domain false Rows.fnChainedRow.laid) (((OpenSpec.ofChange Rows.fnChainedSpec).at F).post enc Tryz.prog Tryz.f3 false true false false) := by
  obtain ⟨places, hx⟩ := reads os enc
  refine returnsInHanded_of_row (C := Tryz.checked) (s := OpenSpec.ofChange Rows.fnChainedSpec) own started (by kernel_rfl) Tryz.func3
    (witness_row_atRef (enc := enc) (C := Tryz.checked) false (start os) zero rfl (by kernel_rfl) (by kernel_rfl) (by kernel_rfl)
      (OpenSpec.preRow_of_cond 8 hx (by kernel_rfl) (fun k hk => by cases hk) (by kernel_rfl) (met os zero))) ?_
  intro W base args ds gs before hval hW _ _ _ hL _ _
  exact contract H enc W base args ds gs before hval hW hL

theorem said : Rows.FnChainedSaid :=
  OpenClaim.holds_of_cond 3 Tryz.f3 rfl rfl rfl rfl rfl rfl rfl ⟨rfl, rfl, rfl, rfl, rfl⟩ rfl rfl rfl rfl rfl (by kernel_rfl) Tryz.func3 (by kernel_rfl)
    (of_decide_eq_true (by kernel_rfl)) (by unfold Func.isWrapper; first | (rw [if_pos (by decide +kernel)]; kernel_rfl) | (rw [if_neg (by decide +kernel)]; exact ⟨rfl, rfl⟩))
    (fun os started H enc _ F => by rw [OpenClaim.pre_eq_preRow]; exact lifted os started H enc F)

theorem plain (f : FuncId) (fn : Func) (hf : Tryz.pinned.checked.prog.funcNamed "treesandproofs/laws.FnChained" = some f) (hfn : Tryz.pinned.checked.prog.funcs[f]? = some fn) :
    false = Tryz.pinned.checked.prog.looks [] ∧ ∀ (j : Nat) t, fn.params[j]? = some t → Tryz.pinned.checked.prog.wantsStandIn t = false := by
  obtain rfl : f = 3 := Option.some.inj ((show Tryz.prog.funcNamed "treesandproofs/laws.FnChained" = some 3 by kernel_rfl).symm.trans hf) |>.symm
  obtain rfl : fn = Tryz.f3 := (Option.some.inj (Tryz.func3.symm.trans hfn)).symm
  refine ⟨by kernel_rfl, fun j t ht => ?_⟩
  rw [Tryz.params3] at ht
  have hj : j = 0 ∨ j = 1 ∨ j = 2 ∨ j = 3 ∨ j = 4 ∨ j = 5 ∨ 6 ≤ j := by omega
  rcases hj with rfl | rfl | rfl | rfl | rfl | rfl | hj
  · obtain rfl : t = 22 := by simpa using ht.symm
    exact (show Tryz.prog.wantsStandIn 22 = false by kernel_rfl)
  · obtain rfl : t = 22 := by simpa using ht.symm
    exact (show Tryz.prog.wantsStandIn 22 = false by kernel_rfl)
  · obtain rfl : t = 23 := by simpa using ht.symm
    exact (show Tryz.prog.wantsStandIn 23 = false by kernel_rfl)
  · obtain rfl : t = 24 := by simpa using ht.symm
    exact (show Tryz.prog.wantsStandIn 24 = false by kernel_rfl)
  · obtain rfl : t = 24 := by simpa using ht.symm
    exact (show Tryz.prog.wantsStandIn 24 = false by kernel_rfl)
  · obtain rfl : t = 9 := by simpa using ht.symm
    exact (show Tryz.prog.wantsStandIn 9 = false by kernel_rfl)
  · rw [Array.getElem?_eq_none (by simpa using hj)] at ht; cases ht

theorem card : Rows.FnChainedCardSaid :=
  Claim7.holds_tied_plain_at .later [] _ _ _ _ said (fun _ h => by cases h) (by kernel_rfl) (fun _ h => by cases h) fnChained_row_tie rfl ⟨rfl, rfl⟩ (by kernel_rfl) rfl plain (by kernel_rfl)
#print axioms card
end Go.Proofs.YtfodkjpjejoemaaGreatDoor.fnChained
