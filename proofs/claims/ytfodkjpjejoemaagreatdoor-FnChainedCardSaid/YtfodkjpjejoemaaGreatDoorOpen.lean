
/-
  From the form's reading of an argument to the words of memory of XBase: a slice of whatever elements of one cell, a list of bytes, a proof; what a listed variable gives; the step behind the walk.
  Conditions: none (laws).
-/
import Derived.Test.YtfodkjpjejoemaaGreatDoorZa
import Derived.ProofKit
import Derived.OpenShut
import Derived.Deep.Slices
import Derived.Lib.SmallJoins
import Derived.LaidLaws
namespace Go.Proofs.YtfodkjpjejoemaaGreatDoor
open Go Go.RowKit Go.WideShapes Go.ChangeShapes Go.Deep

theorem laidOut : laidOutB Tryz.prog = true := by kernel_rfl

section
variable {H : Type} {enc : TypeId × Value → H} {P : Program} {w : World} {base : Nat} {spare : Nat → Bool} {held : Bool}

/-- A slice whose elements are one cell each: opened to a list, what an element is being given. -/
theorem open_slc {α : Type} (R : World → Value → α → Prop) {t e : TypeId} (ht : P.underlying t = some (.slice e)) (hc : P.cellsOf e = 1)
    (hR : ∀ (fuel : Nat) (u : Value) (x : DataW H × List MemPlace), DataW.trod enc P w base spare held fuel e [u] = some x → ∃ y, R w u y)
    {fuel : Nat} {v : Value} {x : DataW H × List MemPlace} (h : DataW.trod enc P w base spare held fuel t [v] = some x) : ∃ L, Slc R w v L := by
  rcases open_slice1 ht hc h with ⟨hcs, _⟩ | ⟨a, len, cap, m, n, V, D, Pl, hcs, _, hl, hm, hmm, _, hx⟩
  · obtain rfl : v = .slice none 0 0 := by simpa using hcs
    exact ⟨[], Slc.nil_⟩
  · obtain rfl : v = .slice (some a) len cap := by simpa using hcs
    have hlm : len ≤ m := by rw [hmm]; split <;> omega
    have hy : ∀ i : Fin len, ∃ y, R w (V i) y := fun i => hR n (V i) _ (hx i (by have := i.isLt; omega)).2
    obtain ⟨f, hf⟩ := Classical.axiomOfChoice hy
    refine ⟨List.ofFn f, some a, cap, by simp, by simpa using hl, hm, fun e => by (cases e), fun hn => ?_⟩
    have h0 := (hx 0 (by simp at hn; omega)).1
    have hs : a.spot = none := by
      have : a.add 0 = a := by simp [Addr.add]
      rw [this] at h0
      unfold World.cell? at h0
      cases hsp : a.spot with
      | none => rfl
      | some _ => rw [hsp] at h0; simp at h0; split at h0 <;> simp_all
    refine ⟨a.block, a.off, by cases a; simp_all, fun i hi => ?_⟩
    have hi' : i < len := by simpa using hi
    refine ⟨V i, ?_, by simpa using hf ⟨i, hi'⟩⟩
    have := (hx i (by omega)).1
    rw [← this]
    unfold Addr.add
    by_cases h0 : i = 0
    · subst h0; simp; cases a; simp_all
    · simp [h0]

theorem open_u8 {e : TypeId} (he : P.underlying e = some (.int .u8)) {fuel : Nat} {u : Value} {x : DataW H × List MemPlace} (h : DataW.trod enc P w base spare held fuel e [u] = some x) : ∃ y, U8 w u y := by
  obtain ⟨n, hu, _, hw⟩ := DataW.trod_int he h
  obtain rfl : u = .int .u8 n := by simpa using hu
  have hb := bounds_u8 hw
  refine ⟨UInt8.ofNat n.toNat, ?_⟩
  unfold U8
  congr 1
  rw [UInt8.toNat_ofNat']
  have : n.toNat % 2 ^ 8 = n.toNat := Nat.mod_eq_of_lt (by omega)
  omega

theorem open_byts {t e : TypeId} (ht : P.underlying t = some (.slice e)) (hc : P.cellsOf e = 1) (he : P.underlying e = some (.int .u8))
    {fuel : Nat} {v : Value} {x : DataW H × List MemPlace} (h : DataW.trod enc P w base spare held fuel t [v] = some x) : ∃ L, Byts w v L :=
  open_slc U8 ht hc (fun _ _ _ h => open_u8 he h) h

theorem open_mat {tt t e : TypeId} (htt : P.underlying tt = some (.slice t)) (hct : P.cellsOf t = 1) (ht : P.underlying t = some (.slice e)) (hc : P.cellsOf e = 1) (he : P.underlying e = some (.int .u8))
    {fuel : Nat} {v : Value} {x : DataW H × List MemPlace} (h : DataW.trod enc P w base spare held fuel tt [v] = some x) : ∃ L, Mat w v L :=
  open_slc Byts htt hct (fun _ _ _ h => open_byts ht hc he h) h

/-- an argument that is a slice: its cells are itself -/
theorem trod_of_slice {r : Reach} {b0 : Nat} {t e : TypeId} {v : Value} {d : DataW H} {p : List MemPlace} (ht : P.underlying t = some (.slice e)) (hv : Value.okWide P w r b0 t v) (h : DataW.Trod enc P w base spare held t v d p) :
    ∃ fuel, DataW.trod enc P w base spare held fuel t [v] = some (d, p) := by
  obtain ⟨a, l, c, rfl⟩ := okWide_slice ht hv
  obtain ⟨fuel, hf⟩ := h
  exact ⟨fuel, by simpa [Value.cells] using hf⟩

/-- what lists an error: its cell holds an interface value -/
theorem iface_cell {fuel : Nat} {ti : TypeId} {ms : Array (String × TypeId)} {cs : List Value} {name : String} {d : DataW H} {p : List MemPlace} (hi : P.underlying ti = some (.interface ms))
    (h : DataW.trod enc P w base spare false fuel ti cs = some (.iface name d, p)) : ∃ u v, cs = [.iface u v] := by
  obtain ⟨_, u, v, h, _⟩ := iface_of_trod hi h
  exact ⟨u, v, h⟩

/-- The law's last step: nothing that was there has turned. -/
theorem post_of_below {f : Func} {s : ChangeSpec} {apart fresh handsOn again : Bool} {W W' : World} {args : Array Value} {v : Value} {ds gs : List (DataW H)} {before pa pv : List MemPlace}
    (hW : DataW.Whole enc P f.params.toList s.vars apart W args.toList ds gs before)
    (hres : ∀ (b : Nat) (sp : Nat → Bool) (hd : Bool), DataW.TrodAll enc P W' b sp hd f.resultTypes.toList (v.resultList f.resultTypes.size) (s.fn H (ds ++ gs)).results [])
    (hargs : ∀ sp : Nat → Bool, (∀ p ∈ before, sp p.block = true) → DataW.TrodAll enc P W' 0 sp true f.params.toList args.toList (s.fn H (ds ++ gs)).args pa)
    (hvars : ∀ sp : Nat → Bool, (∀ p ∈ before, sp p.block = true) → DataW.TrodVars enc P W' sp s.vars (s.fn H (ds ++ gs)).vars pv)
    (hps : before = pa ++ pv) (hb : Below W.heap.size W W')
    (hok : ∀ (j : Nat) (t : TypeId) (r : Value), f.resultTypes[j]? = some t → (v.resultList f.resultTypes.size)[j]? = some r → Value.okWide P W' .any 0 t r) :
    s.post enc P f apart fresh handsOn again W args v W' := by
  have hlt : ∀ p ∈ before, p.block < W.heap.size := fun p hp => hW.lt p hp
  have hold : ∀ p ∈ before, (fun b => decide (b < W.heap.size)) p.block = true := fun p hp => by simpa using hlt p hp
  refine ⟨ds, gs, before, [], pa, pv, hW, hres _ _ _, hargs _ hold, hvars _ hold, World.keptBut_mono (fun p hp => ⟨hp, ?_⟩) (hb.frame (· ∈ before)), fun _ => ?_⟩
  · rw [hps, List.mem_append] at hp
    exact Or.inr hp
  · obtain ⟨_, _, _, _, _, hz, hn⟩ := hW
    refine ⟨hok, _, _, ([] ++ pa) ++ pv, ⟨[] ++ pa, pv, trodAll_append (hargs _ (fun _ _ => rfl)) (hres _ _ _), hvars _ (fun _ _ => rfl), rfl, ?_, ?_⟩, ?_⟩
    · intro b off hp
      have hin : MemPlace.cell b off ∈ before := by rw [hps]; simpa using hp
      rw [hb.frozen (hlt _ hin)]
      exact hz b off hin
    · intro ha
      have := hn ha
      rw [hps] at this
      simpa using this
    · intro p hp _
      rw [hps]
      simpa using hp

theorem trodAll_stays (hl : laidOutB P = true) {W W' : World} {sp : Nat → Bool} (hb : Below W.heap.size W W') : ∀ (ts : List TypeId) (vs : List Value) (ds : List (DataW H)) (ps : List MemPlace),
    (ts.all fun t => P.readableRec t && decide (t < P.types.size)) = true → DataW.TrodAll enc P W 0 (fun _ => true) true ts vs ds ps → (∀ x ∈ ps, x.block < W.heap.size) → (∀ x ∈ ps, sp x.block = true) →
    DataW.TrodAll enc P W' 0 sp true ts vs ds ps
  | [], vs, ds, ps, _, h, _, _ => by
    obtain ⟨rfl, rfl, rfl⟩ := trodAll_nil h
    exact trodAll_mk0
  | t :: ts, vs, ds, ps, hr, h, hlt, hsp => by
    obtain ⟨v, vs', d, ds', p, q, rfl, rfl, rfl, h1, h2⟩ := trodAll_cons h
    simp only [List.all_cons, Bool.and_eq_true, decide_eq_true_eq] at hr
    exact trodAll_cons_mk (WideElems.Trod_stays hl hr.1.1 hr.1.2 h1 (fun x hx => hb.same (hlt x (List.mem_append_left _ hx))) (fun x hx => hsp x (List.mem_append_left _ hx)))
      (trodAll_stays hl hb ts vs' ds' q hr.2 h2 (fun x hx => hlt x (List.mem_append_right _ hx)) (fun x hx => hsp x (List.mem_append_right _ hx)))
end
end Go.Proofs.YtfodkjpjejoemaaGreatDoor
