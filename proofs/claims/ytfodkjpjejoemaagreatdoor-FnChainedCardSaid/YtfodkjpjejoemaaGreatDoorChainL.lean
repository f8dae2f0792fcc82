
/-
  Chains: what the law's loop keeps.
  Conditions: none (definitions, and laws on them).
-/
import Derived.Test.YtfodkjpjejoemaaGreatDoorChainP
import Derived.Test.YtfodkjpjejoemaaGreatDoorChain4
namespace Go.Proofs.YtfodkjpjejoemaaGreatDoor
open Go Go.RowKit
attribute [local go_sem ↓] Go.wp_at_zero Go.wp_at_succ

/-- the state of the law's loop: the operations built so far, the keys used, the first value, the last root, the first key -/
def LSt (w1 wr : World) (O : List Opn) (fs nw : List UInt8) (ov uv fv nv kv : Value) : Prop :=
  ∃ (L : List (Value × Value)) (us : List Value),
    ORow 33 wr w1.heap.size ov L ∧ L.length = O.length ∧
    (∀ j (h : j < L.length) (h2 : j < O.length), Byts w1 L[j].1 O[j].key ∧ Own wr w1.heap.size 5 L[j].2 ((opMsg O[j].key O[j].prf).map u8v)) ∧
    Own wr w1.heap.size 24 uv us ∧ us.length = O.length ∧ (∀ j (h : j < us.length) (h2 : j < (O.map Opn.key).reverse.length), Byts w1 us[j] (O.map Opn.key).reverse[j]) ∧
    (∀ o ∈ O, OpnOk o ∧ o.key.length ≤ 2000) ∧ Byts wr nv nw ∧ nw.length ≤ 2000 ∧
    ((O = [] ∧ fv = .slice none 0 0 ∧ nv = .slice none 0 0 ∧ kv = .slice none 0 0) ∨ (Byts w1 fv fs ∧ fs.length ≤ 2000 ∧ Linked fs O nw ∧ ∃ o t, O = o :: t ∧ Byts w1 kv o.key)) ∧ Keep w1 wr
theorem LSt.start (w1 : World) : LSt w1 w1 [] [] [] (.slice none 0 0) (.slice none 0 0) (.slice none 0 0) (.slice none 0 0) (.slice none 0 0) :=
  ⟨[], [], ORow.nil_ _ _ _, rfl, fun j h => absurd h (by simp), Own.nil_ _ _ _, rfl, fun j h => absurd h (by simp), fun o h => absurd h (by simp), Slc.nil_, by simp, .inl ⟨rfl, rfl, rfl, rfl⟩, Kp.refl _ _⟩
theorem LSt.next {w1 w7 : World} {O : List Opn} {fs : List UInt8} {L : List (Value × Value)} {us : List Value} {v3 uv3 fv nv kv kqv dv : Value} {o : Opn}
    (hrow : ORow 33 w7 w1.heap.size v3 (L ++ [(kqv, dv)])) (hLl : L.length = O.length)
    (hLe : ∀ j (h : j < L.length) (h2 : j < O.length), Byts w1 L[j].1 O[j].key ∧ Own w7 w1.heap.size 5 L[j].2 ((opMsg O[j].key O[j].prf).map u8v))
    (hkq : Byts w1 kqv o.key) (hdv : Own w7 w1.heap.size 5 dv ((opMsg o.key o.prf).map u8v)) (huo : Own w7 w1.heap.size 24 uv3 (kqv :: us)) (hul : us.length = O.length)
    (hue : ∀ j (h : j < us.length) (h2 : j < (O.map Opn.key).reverse.length), Byts w1 us[j] (O.map Opn.key).reverse[j])
    (hook : ∀ o ∈ O, OpnOk o ∧ o.key.length ≤ 2000) (ho : OpnOk o ∧ o.key.length ≤ 2000) (hnv : Byts w7 nv o.root) (hrl : o.root.length ≤ 2000)
    (hfv : Byts w1 fv fs) (hfl : fs.length ≤ 2000) (hlk : Linked fs (O ++ [o]) o.root) (hh : ∃ o' t, O ++ [o] = o' :: t ∧ Byts w1 kv o'.key) (hk : Keep w1 w7) : LSt w1 w7 (O ++ [o]) fs o.root v3 uv3 fv nv kv := by
  refine ⟨L ++ [(kqv, dv)], kqv :: us, hrow, by simp [hLl], ?_, huo, by simp [hul], ?_, ?_, hnv, hrl, .inr ⟨hfv, hfl, hlk, hh⟩, hk⟩
  · intro j h h2
    rcases getElem_snoc L (kqv, dv) j h with ⟨h', e⟩ | ⟨e', e⟩
    · have e2 : (O ++ [o])[j] = O[j]'(by omega) := List.getElem_append_left _
      rw [e, e2]; exact hLe j h' _
    · have e2 : (O ++ [o])[j] = o := by subst e'; rw [List.getElem_append_right (by omega)]; simp [hLl]
      rw [e, e2]; exact ⟨hkq, hdv⟩
  · intro j h h2
    have key : ∀ (R : List (List UInt8)) (_ : R = o.key :: (O.map Opn.key).reverse) (h2 : j < R.length), Byts w1 (kqv :: us)[j] R[j] := by
      intro R hR h2
      subst hR
      cases j with
      | zero => exact hkq
      | succ j => exact hue j (by simpa using h) (by simpa using h2)
    exact key _ (by simp) h2
  · intro x hx
    rcases List.mem_append.1 hx with h | h
    · exact hook x h
    · simp at h; subst h; exact ho

theorem ORow.block {T : TypeId} {w : World} {B : Nat} {v : Value} {L : List (Value × Value)} (h : ORow T w B v L) {g : Nat} (hg : v.ownBlock = some g) : B ≤ g ∧ g < w.heap.size ∧ ∃ cur, w.heap[g]? = some (.cells cur T (0, 0)) := by
  rcases h.2 with ⟨rfl, _⟩ | ⟨g', cap, cur, rfl, hb, hh, _⟩
  · simp [Value.ownBlock] at hg
  · simp [Value.ownBlock] at hg
    subst hg
    exact ⟨hb, lt_of_block hh, cur, hh⟩
theorem Own.kp_orow {T e : TypeId} {w w' : World} {base B : Nat} {v v2 : Value} {xs : List Value} {L : List (Value × Value)} (h : Own w base e v xs) (h2 : ORow T w B v2 L) (ht : e ≠ T) (k : Kp (fun i => some i = v2.ownBlock) w w') : Own w' base e v xs := by
  refine h.kp k fun g hg hs => ?_
  obtain ⟨_, cur, hh⟩ := h.block hg
  obtain ⟨_, _, cur2, hh2⟩ := h2.block hs.symm
  rw [hh] at hh2
  simp at hh2
  exact ht hh2.2
theorem Outs.kp {S : Nat → Prop} {w w' : World} {B : Nat} {v : Value} {D : List (List UInt8)} (h : Outs w B v D) (k : Kp S w w') (hS : ∀ i, B ≤ i → ¬ S i) : Outs w' B v D := by
  obtain ⟨vals, h1, h2, h3⟩ := h
  exact ⟨vals, h1.kp k fun b hb => hS b (h1.lt b hb).1, h2, fun j hj hj2 => (h3 j hj hj2).kp k fun b hb => hS b ((h3 j hj hj2).lt b hb).1⟩
theorem Own.src3 {w : World} {base : Nat} {e : TypeId} {A : Option Addr} {n c : Nat} {xs : List Value} (h : Own w base e (.slice A n c) xs) : Src w A xs.length xs := by
  obtain ⟨A', c', hv, -, -, -, h5⟩ := h.form
  simp only [Value.slice.injEq] at hv
  obtain ⟨rfl, -, -⟩ := hv
  refine ⟨rfl, fun hp => ?_⟩
  obtain ⟨g, rfl, -, hc⟩ := h5 hp
  refine ⟨_, rfl, fun j u hj => ?_⟩
  obtain ⟨hjl, rfl⟩ := List.getElem?_eq_some_iff.1 hj
  rw [add_at]
  exact hc j hjl
theorem step_own3 {P : Program} {w : World} {ops : Array Oper} {o : Oper} {a : Act} {K : Act → World → Prop} {Q : Exit → Act → World → Prop} {E : Prop} (hgd : o.guard = none) (s x : Operand) (t : TypeId)
    (ho : o.op = .call { callee := .builtin .append, args := #[s, x], argTypes := #[t, t] })
    (base : Nat) (e : TypeId) (i : TypeInfo) (z : Value) (size bytes : Nat) (ht : P.underlying t = some (.slice e)) (hi : P.info? e = some i) (hz : i.zero = some z)
    (hsize : i.size = size) (hby : i.bytes = bytes) (hzs : z.cells.size = size) (hsz : 0 < size)
    (v : Value) (n : Nat) (xs : List Value) (hs : a.eval s = v) (hown : w.ownsRow base e size v n xs)
    (ad : Addr) (m c : Nat) (news : List Value) (hx : a.eval x = .slice (some ad) m c) (hl : news.length = m * size) (hnews : ∀ j u, news[j]? = some u → w.cell? (ad.add j) = some u) (h1 : ∀ u ∈ news, u.oneCell' = true)
    (h63 : n + m ≤ maxLen) (hbytes : (n + m) * bytes ≤ 140737488355328) (hbase : base ≤ w.heap.size)
    (h : ∀ v' w', w'.ownsRow base e size v' (n + m) (xs ++ news) → w.grownBy w' v.ownBlock → K (a.put o.dst v') w') :
    if Region.wanted o (yielded ops a.tmps) = true then Oper.wp P o a w K Q else E := by
  have hw : Region.wanted o (yielded ops a.tmps) = true := by simp [Region.wanted, hgd]
  rw [if_pos hw]
  exact wp_append_own w s x t ho base e i z size bytes ht hi hz hsize hby hzs hsz v n xs hs hown ad m c news hx hl hnews h1 h63 hbytes hbase fun v' w' h2 h3 _ => h v' w' h2 h3
theorem infoOp : (Tryz.prog.info? 33).map (fun i => (i.zero, i.size, i.bytes)) = some (some (.agg #[.string ⟨#[]⟩, .slice none 0 0, .slice none 0 0]), 3, 64) := by kernel_rfl
theorem news3 {w : World} {g : Nat} {a b c : Value} {t : TypeId} (hg : g = w.heap.size) : ∀ j u, ([a, b, c] : List Value)[j]? = some u → (w.alloc (.cells #[a, b, c] t)).cell? ((⟨g, 0, none⟩ : Addr).add j) = some u := by
  subst hg
  intro j u hj
  match j, hj with
  | 0, hj => simp at hj; subst hj; simp [Addr.add]
  | 1, hj => simp at hj; subst hj; simp [Addr.add]
  | 2, hj => simp at hj; subst hj; simp [Addr.add]
  | j + 3, hj => simp at hj
theorem linked_one (f : List UInt8) (o : Opn) (h : o.prf.leaf = leafS (pairS o.key f)) : Linked f ([] ++ [o]) o.root := linked_snoc [] f f o rfl h
theorem prf_leaf2 {M : List (List UInt8)} {q : Nat} (hq : q < M.length) {x : List UInt8} (h : M[q] = x) : (prfOf M q).leaf = leafS x := by
  show leafS (M.getD q []) = leafS x
  rw [List.getD_eq_getElem?_getD, List.getElem?_eq_getElem hq, h]; rfl
end Go.Proofs.YtfodkjpjejoemaaGreatDoor
