/-
  FnMessage: for every proof of bounded bulk the law answers true, and the proof reads afterwards as before: the tied card of the second form.
  Conditions: the card's own: the listed error variable reads as the program's text lays it.
-/
import Derived.Test.YtfodkjpjejoemaaDoorMsg11
import Derived.Test.YtfodkjpjejoemaaDoorBulk
import Derived.Test.YtfodkjpjejoemaaDoorCards
import Derived.Test.YtfodkjpjejoemaaDoorTie
import Derived.Deep.DeepHandedRow
import Derived.Deep.DeepWitnessRowRef
import Derived.LaidMore
namespace Go.Proofs.YtfodkjpjejoemaaDoor.fnMessage
open Go Go.RowKit Go.WideShapes Go.ChangeShapes Go.ChangeAt Go.Joins

theorem fByt_len (tag : Nat) (b : List UInt8) (h : b.length ≤ 4294967296) : (fByt tag b).length ≤ 11 * (b.length + 1) := by
  have := uvar_ten b.length (by omega)
  simp only [fByt, List.length_cons, List.length_append]
  omega
theorem aunts_len (L : List (List UInt8)) (h : (L.map fun a => a.length + 1).sum ≤ 1048576) : (L.flatMap (fByt 34)).length ≤ 11 * (L.map fun a => a.length + 1).sum := by
  induction L with
  | nil => simp
  | cons a L ih =>
    simp only [List.map_cons, List.sum_cons] at h ⊢
    rw [List.flatMap_cons, List.length_append]
    have h1 := ih (by omega)
    have h2 := fByt_len 34 a (by omega)
    omega
theorem fNum_len (tag n : Nat) (h : n < 18446744073709551616) : (fNum tag n).length ≤ 11 := by
  have := uvar_ten n h
  unfold fNum
  split
  · simp
  · simp; omega
theorem msg_len (p : Prf) (hl : p.leaf.length ≤ 1048576) (ha : (p.aunts.map fun a => a.length + 1).sum ≤ 1048576) : (msgOf p).length ≤ 1099511626000 := by
  have h1 := fNum_len 8 _ (asU64_lt p.total)
  have h2 := fNum_len 16 _ (asU64_lt p.index)
  have h3 := fByt_len 26 p.leaf (by omega)
  have h4 := aunts_len p.aunts ha
  have h5 : (if p.leaf = [] then [] else fByt 26 p.leaf).length ≤ (fByt 26 p.leaf).length := by split <;> simp
  simp only [msgOf, List.length_append]
  omega

theorem own : ownKnob Tryd.prog.godebug = none := by kernel_rfl
theorem gErr : Tryd.prog.globalNamed "treesandproofs/pub/cometmerkle.ErrMaxAuntsLenExceeded" = some 0 := by kernel_rfl
theorem tErr : (Tryd.prog.globals[0]?).map (·.type) = some 92 := by kernel_rfl

theorem door_met (os : Os) (args : Array Value) : laidMetH Tryd.prog Rows.fnMessageUptoRow.laid ((World.doorLaid Tryd.prog 91 os).forCall (fun _ _ => 0) ⟨#[], args, []⟩).memory :=
  laidMetH_of_parts3 (fuel := 8) (laidMet_of_run' 8 (by kernel_rfl) (by kernel_rfl)) (by kernel_rfl) (by kernel_rfl)

theorem of_laid {W : World} (h : laidMetH Tryd.prog Rows.fnMessageUptoRow.laid W) : ∃ t x, W.cell? ⟨0, 0, none⟩ = some (.iface t x) := by
  rw [MakeChecks.laidMetH_plain _ _ _ (by kernel_rfl)] at h
  obtain ⟨ps, ⟨g0, t0, cs0, f0, p0, q0, hg0, ht0, hv0, hd0, _, _⟩, _, _⟩ := h
  obtain rfl := Option.some.inj (gErr.symm.trans hg0)
  obtain rfl := Option.some.inj (tErr.symm.trans ht0)
  obtain ⟨u, v, hcs⟩ := iface_cell Tryd.underlying92 hd0
  have := World.var?_cell hg0 hv0 0
  rw [Array.eq_one_of_toList hcs] at this
  exact ⟨u, v, by simpa using this⟩

set_option maxRecDepth 100000 in
theorem contract (H : Type) (enc : TypeId × Value → H) (W : World) (base : Nat) (args : Array Value) (ds gs : List (DataW H)) (before : List MemPlace)
    (hval : ∀ (j : Nat) t v, Tryd.f5.params[j]? = some t → args[j]? = some v → Value.okWide Tryd.prog W .any base t v)
    (hW : DataW.Whole enc Tryd.prog Tryd.f5.params.toList Rows.fnMessageSpec.vars false W args.toList ds gs before) (hL : laidMetH Tryd.prog Rows.fnMessageUptoRow.laid W) (hB : Rows.uptoSmall H (ds ++ gs) = true) :
    Calls Tryd.prog 5 args W fun e W' => ∃ v, e = .returned v ∧ Rows.fnMessageSpec.post enc Tryd.prog Tryd.f5 false true false false W args v W' := by
  have hW' := hW
  obtain ⟨p, q, hA0, hV, rfl, hfz, hnd⟩ := hW
  have hA : DataW.TrodAll enc Tryd.prog W 0 (fun _ => true) true Tryd.f5.params.toList args.toList ds p := hA0
  rw [Tryd.params5] at hA hval
  obtain ⟨v0, vs0, d0, ds0, p0, q0, hargs, rfl, rfl, h0, r0⟩ := trodAll_cons hA
  obtain ⟨rfl, rfl, rfl⟩ := trodAll_nil r0
  obtain rfl : args = #[v0] := by cases args; simp_all
  obtain ⟨rfl, rfl⟩ := trodVars_none hV
  have h0k := h0
  have hv0' : Value.okWide Tryd.prog W .any base 25 v0 := hval 0 25 v0 rfl rfl
  obtain ⟨c0, c1, c2, c3, y0, y1, y2, y3, n, rfl, hd0, _, hy0, hy1, hy2, hy3⟩ := open_agg4 Tryd.underlying25 (by kernel_rfl) (by kernel_rfl) hv0' h0
  obtain ⟨z0, e0, _, w0⟩ := DataW.trod_int Tryd.underlying3 hy0
  obtain ⟨z1, e1, _, w1⟩ := DataW.trod_int Tryd.underlying3 hy1
  obtain rfl : c0 = .int .i64 z0 := by simpa using e0
  obtain rfl : c1 = .int .i64 z1 := by simpa using e1
  obtain ⟨leaf, hleaf, hbl⟩ := open_bytsB Tryd.underlying22 (by kernel_rfl) Tryd.underlying5 hy2
  obtain ⟨aunts, haunts, hba⟩ := open_matB Tryd.underlying23 (by kernel_rfl) Tryd.underlying22 (by kernel_rfl) Tryd.underlying5 hy3
  have b0 := bounds_i64 w0
  have b1 := bounds_i64 w1
  obtain ⟨t, x, hx⟩ := of_laid hL
  have hB1 : Rows.uptoBulkAll ([d0] ++ []) ≤ 1048576 := of_decide_eq_true hB
  rw [hd0] at hB1
  simp only [List.append_nil, Rows.uptoBulkAll, Rows.uptoBulk] at hB1
  have hq1 : leaf.length ≤ 1048576 := by omega
  have hq2 : (aunts.map fun a => a.length + 1).sum ≤ 1048576 := by omega
  have hq3 : aunts.length ≤ 1048576 := Nat.le_trans (sum_len aunts) hq2
  have hq4 : ∀ a ∈ aunts, a.length ≤ 4294967296 := fun a ha => by have := sum_part aunts a ha; omega
  have hq5 := msg_len ⟨z0, z1, leaf, aunts⟩ (by show leaf.length ≤ _; omega) hq2
  clear hA0 hV
  simp only [List.append_nil] at hW' 
  have hlt : ∀ x ∈ p0, x.block < W.heap.size := fun x hx => by simpa using hW'.lt x hx
  refine (fnMessage_walk _ ⟨z0, z1, leaf, aunts⟩ W ⟨_, _, rfl, hleaf, haunts, b0.1, b0.2, b1.1, b1.2⟩ (by show leaf.length ≤ _; omega) hq4 (by show aunts.length ≤ _; omega) hq5 t x hx).mono fun e W' ⟨he, hk⟩ => ?_
  subst he
  exact ⟨_, rfl, post_of_below (pa := p0) (pv := []) hW' (fun _ _ _ => trodAll_cons_mk (shut_bool Tryd.underlying4 _) trodAll_mk0)
    (fun sp hsp => trodAll_stays laidOut hk.below _ _ [d0] _ (by kernel_rfl) (by simpa using hA) hlt (fun x hx => hsp x (by simpa using hx))) (fun _ _ => rfl) (by simp)
    hk.below (ok_one (by kernel_rfl) rfl (okWide_bool_mk Tryd.underlying4 _))⟩

noncomputable def start (os : Os) : World := World.doorLaid Tryd.prog 91 os
noncomputable def zero : Array Value := #[.agg #[.int .i64 0, .int .i64 0, .slice none 0 0, .slice none 0 0]]
theorem reads (os : Os) {H : Type} (enc : TypeId × Value → H) : ∃ places, DataW.whole enc Tryd.prog ((start os).forCall (fun _ _ => 0) ⟨#[], zero, []⟩).memory Tryd.f5.params.toList Rows.fnMessageSpec.vars false zero.toList 8 = some ([.agg [.lit (.int .i64 0), .lit (.int .i64 0), .nil, .nil]], [], places) :=
  ⟨[], by kernel_rfl⟩

set_option maxRecDepth 100000 in
theorem lifted (os : Os) (started : os.Started) (H : Type) (enc : TypeId × Value → H) (F : Stop.Interp) :
    ReturnsInHanded {} Tryd.checked os 5 .any ((Rows.OpenSpec.upto Rows.fnMessageSpec).preRow enc Tryd.prog Tryd.f5 Rows.fnMessageUptoRow.domain false Rows.fnMessageUptoRow.laid) (((Rows.OpenSpec.upto Rows.fnMessageSpec).at F).post enc Tryd.prog Tryd.f5 false true false false) := by
  obtain ⟨places, hx⟩ := reads os enc
  refine returnsInHanded_of_row (C := Tryd.checked) (s := Rows.OpenSpec.upto Rows.fnMessageSpec) own started (by kernel_rfl) Tryd.func5
    (witness_row_atRef (enc := enc) (C := Tryd.checked) false (start os) zero rfl (by kernel_rfl) (by kernel_rfl) (by kernel_rfl)
      (OpenSpec.preRow_of_cond 8 hx (by kernel_rfl) (fun k hk => by cases hk; kernel_rfl) (by kernel_rfl) (door_met os zero))) ?_
  intro W base args ds gs before hval hW _ hcond _ hL _ _
  exact contract H enc W base args ds gs before hval hW hL (hcond _ rfl)

theorem said : Rows.FnMessageUptoSaid :=
  OpenClaim.holds_of_cond 5 Tryd.f5 rfl rfl rfl rfl rfl rfl rfl ⟨rfl, rfl, rfl, rfl, rfl⟩ rfl rfl rfl rfl rfl (by kernel_rfl) Tryd.func5 (by kernel_rfl)
    (of_decide_eq_true (by kernel_rfl)) (by unfold Func.isWrapper; first | (rw [if_pos (by decide +kernel)]; kernel_rfl) | (rw [if_neg (by decide +kernel)]; exact ⟨rfl, rfl⟩))
    (fun os started H enc _ F => by rw [OpenClaim.pre_eq_preRow]; exact lifted os started H enc F)

theorem plain (f : FuncId) (fn : Func) (hf : Tryd.pinned.checked.prog.funcNamed "treesandproofs/laws.FnMessage" = some f) (hfn : Tryd.pinned.checked.prog.funcs[f]? = some fn) :
    false = Tryd.pinned.checked.prog.looks [] ∧ ∀ (j : Nat) t, fn.params[j]? = some t → Tryd.pinned.checked.prog.wantsStandIn t = false := by
  obtain rfl : f = 5 := Option.some.inj ((show Tryd.prog.funcNamed "treesandproofs/laws.FnMessage" = some 5 by kernel_rfl).symm.trans hf) |>.symm
  obtain rfl : fn = Tryd.f5 := (Option.some.inj (Tryd.func5.symm.trans hfn)).symm
  refine ⟨by kernel_rfl, fun j t ht => ?_⟩
  rw [Tryd.params5] at ht
  obtain rfl : t = 25 := by simpa using Array.mem_of_getElem? ht
  exact (show Tryd.prog.wantsStandIn 25 = false by kernel_rfl)

theorem card : Rows.FnMessageUptoCardSaid :=
  Claim7.holds_tied_plain_at .later [] _ _ _ _ said (fun _ h => by cases h) (by kernel_rfl) (fun _ h => by cases h) fnMessageUpto_row_tie rfl ⟨rfl, rfl⟩ (by kernel_rfl) rfl plain (by kernel_rfl)
#print axioms card
end Go.Proofs.YtfodkjpjejoemaaDoor.fnMessage
