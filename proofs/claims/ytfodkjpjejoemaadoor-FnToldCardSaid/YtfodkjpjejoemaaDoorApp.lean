/-
  append onto a slice that the call itself made, its elements one cell each, the source nil or not; what is owned reads as a list.
  Conditions: none (laws).
-/
import Derived.Test.YtfodkjpjejoemaaDoorBase
import Derived.Maps.AppendAt
import Derived.OwnWalk
import Derived.Laws.CopyOwn
namespace Go.Proofs.YtfodkjpjejoemaaDoor
open Go Go.RowKit

/-- the slice value v owns the cells xs, in a block from 'base' on -/
abbrev Own (w : World) (base : Nat) (e : TypeId) (v : Value) (xs : List Value) : Prop := w.ownsRow base e 1 v xs.length xs

/-- t: slices of e, one cell of so many bytes -/
def AppOk (P : Program) (t e : TypeId) (bytes : Nat) : Prop :=
  P.underlying t = some (.slice e) ∧ 0 < bytes ∧ ∃ i z, P.info? e = some i ∧ i.zero = some z ∧ i.size = 1 ∧ i.bytes = bytes ∧ z.cells.size = 1

/-- what is appended: m cells, from an address on (none: nothing) -/
def Src (w : World) (A : Option Addr) (m : Nat) (news : List Value) : Prop :=
  news.length = m ∧ (0 < m → ∃ ad, A = some ad ∧ ∀ j u, news[j]? = some u → w.cell? (ad.add j) = some u)

section
variable {P : Program} {w w' : World} {base : Nat} {e : TypeId} {v : Value} {xs : List Value}

theorem Own.nil_ (w : World) (base : Nat) (e : TypeId) : Own w base e (.slice none 0 0) [] := ⟨by simp, .inl ⟨rfl, rfl⟩⟩
/-- []T{}: a new block without cells -/
theorem Own.bare (w : World) (base : Nat) (e : TypeId) (hb : base ≤ w.heap.size) : Own (w.alloc (.cells #[] e)) base e (.slice (some ⟨w.heap.size, 0, none⟩) 0 0) [] :=
  ⟨by simp, .inr ⟨w.heap.size, 0, #[], rfl, hb, heap_alloc_new _ _, Nat.le_refl _, by simp [maxLen], by simp, by simp⟩⟩
/-- what a new block holds is owned -/
theorem Own.made (w : World) (base : Nat) (e : TypeId) (xs : List Value) (hb : base ≤ w.heap.size) (hx : xs.length ≤ maxLen) : Own (w.alloc (.cells xs.toArray e)) base e (.slice (some ⟨w.heap.size, 0, none⟩) xs.length xs.length) xs :=
  ⟨by simp, .inr ⟨w.heap.size, xs.length, xs.toArray, rfl, hb, heap_alloc_new _ _, Nat.le_refl _, hx, by simp, by simp⟩⟩
theorem Own.alloc (h : Own w base e v xs) (o : Obj) : Own (w.alloc o) base e v xs := World.ownsRow.alloc h o
theorem Own.drew (h : Own w base e v xs) : Own w.drew base e v xs := h
theorem Own.drewN (h : Own w base e v xs) (n : Nat) : Own (w.drewN n) base e v xs := h
theorem Own.kp {S : Nat → Prop} (h : Own w base e v xs) (k : Kp S w w') (hS : ∀ b, v.ownBlock = some b → ¬ S b) : Own w' base e v xs := by
  refine ⟨h.1, ?_⟩
  rcases h.2 with h2 | ⟨g, cap, cur, rfl, hb, hh, h3, h4, h5, h6⟩
  · exact .inl h2
  · exact .inr ⟨g, cap, cur, rfl, hb, (k.block g (lt_of_block hh) (hS g rfl)).trans hh, h3, h4, h5, h6⟩
theorem Own.keep (h : Own w base e v xs) (k : Keep w w') : Own w' base e v xs := h.kp k fun _ _ x => x
theorem Own.lt (h : Own w base e v xs) : ∀ b, v.ownBlock = some b → base ≤ b ∧ b < w.heap.size := World.ownsRow.lt h
theorem Own.form (h : Own w base e v xs) : ∃ A c, v = .slice A xs.length c ∧ xs.length ≤ c ∧ c ≤ maxLen ∧ (A = none → c = 0) ∧ (0 < xs.length → ∃ g, A = some ⟨g, 0, none⟩ ∧ base ≤ g ∧ ∀ i (hi : i < xs.length), w.cell? ⟨g, 0 + i, none⟩ = some xs[i]) := by
  rcases h.2 with ⟨rfl, h0⟩ | ⟨g, cap, cur, rfl, hb, hh, h3, h4, h5, h6⟩
  · refine ⟨none, 0, by rw [h0], by omega, by simp [maxLen], fun _ => rfl, fun hp => by omega⟩
  · refine ⟨_, cap, rfl, h3, h4, (fun e => by cases e), fun _ => ⟨g, rfl, hb, fun i hi => ?_⟩⟩
    rw [cell_of_row w g (0 + i) cur e (0, 0) hh, Nat.zero_add]
    have : cur.toList[i]? = some xs[i] := by
      have h7 : (cur.toList.take (xs.length * 1))[i]? = xs[i]? := by rw [h6]
      rw [List.getElem?_take_of_lt (by omega)] at h7
      rw [h7, List.getElem?_eq_getElem hi]
    simpa using this
/-- a store into what is owned -/
theorem Own.set_ {g n c : Nat} (h : Own w base e (.slice (some ⟨g, 0, none⟩) n c) xs) (j : Nat) (u : Value) : Own (w.setCell ⟨g, j, none⟩ u) base e (.slice (some ⟨g, 0, none⟩) n c) (xs.set j u) := by
  have hn : n = xs.length := by
    rcases h.2 with ⟨h0, _⟩ | ⟨g', cap, cur, hv, _⟩
    · cases h0
    · simp only [Value.slice.injEq] at hv; exact hv.2.1
  subst hn
  simpa [Own] using (World.ownsRow.stored h j u).1
/-- what is owned reads as a list -/
theorem Own.slc {α : Type} {R : World → Value → α → Prop} {L : List α} (h : Own w base e v xs) (hl : xs.length = L.length) (hR : ∀ i (hi : i < xs.length) (hi' : i < L.length), R w xs[i] L[i]) : Slc R w v L := by
  obtain ⟨A, c, rfl, h1, h2, h3, h4⟩ := h.form
  refine ⟨A, c, by rw [hl], by omega, h2, h3, fun hp => ?_⟩
  obtain ⟨g, rfl, _, hc⟩ := h4 (by omega)
  exact ⟨g, 0, rfl, fun i hi => ⟨xs[i], hc i (by omega), hR i (by omega) hi⟩⟩
theorem Own.slc_map {α : Type} {R : World → Value → α → Prop} {L : List α} (f : α → Value) (h : Own w base e v (L.map f)) (hR : ∀ x ∈ L, R w (f x) x) : Slc R w v L :=
  Own.slc h (by simp) fun i hi hi' => by simpa using hR _ (List.getElem_mem hi')

theorem Src.nil_ : Src w none 0 [] := ⟨rfl, fun h => absurd h (by omega)⟩
theorem Src.one {b : Nat} {u : Value} (h : w.cell? ⟨b, 0, none⟩ = some u) : Src w (some ⟨b, 0, none⟩) 1 [u] :=
  ⟨rfl, fun _ => ⟨_, rfl, fun j x hj => by
    match j, hj with
    | 0, hj => simp at hj; subst hj; simpa [Addr.add] using h⟩⟩
/-- a slice that reads as a list is a source -/
theorem Src.of_slc {α : Type} {R : World → Value → α → Prop} {L : List α} (f : α → Value) (hR : ∀ u x, R w u x → u = f x) {A : Option Addr} {n c : Nat} (h : Slc R w (.slice A n c) L) : Src w A n (L.map f) := by
  obtain ⟨A', c', hv, h1, h2, h3, h4⟩ := h
  simp only [Value.slice.injEq] at hv
  obtain ⟨rfl, rfl, rfl⟩ := hv
  refine ⟨by simp, fun hp => ?_⟩
  obtain ⟨b, off, rfl, hc⟩ := h4 hp
  refine ⟨_, rfl, fun j u hj => ?_⟩
  have hjl : j < L.length := by
    rcases Nat.lt_or_ge j L.length with h | h
    · exact h
    · rw [List.getElem?_eq_none (by simpa using h)] at hj; cases hj
  obtain ⟨u', hu', hr⟩ := hc j hjl
  have e1 : u = f L[j] := by simpa [List.getElem?_eq_getElem hjl] using hj.symm
  have e2 := hR _ _ hr
  rw [e1, ← e2]
  have : (⟨b, off, none⟩ : Addr).add j = ⟨b, off + j, none⟩ := by unfold Addr.add; split <;> simp_all
  rw [this]; exact hu'

theorem run_app_nil (t ty : TypeId) {bytes : Nat} (hT : AppOk P t e bytes) (hown : Own w base e v xs) (c : Nat) : (Builtin.append_ #[t, t] ty #[v, .slice none 0 c]).run P w = .ok v w := by
  obtain ⟨ht, _, i, z, hi, hz, hs, hby, hzs⟩ := hT
  rcases hown.2 with ⟨rfl, h0⟩ | ⟨g, cap, cur, rfl, _, _, hnc, _⟩
  · simp [Builtin.append_, run_underlying ht, sizeOf, typeInfo, hi, Builtin.lenOf, Builtin.firstCells]
  · simp [Builtin.append_, run_underlying ht, sizeOf, typeInfo, hi, Builtin.lenOf, Builtin.firstCells, hnc, storeCells]

theorem run_app (t ty : TypeId) {bytes : Nat} (hT : AppOk P t e bytes) (hown : Own w base e v xs) {A : Option Addr} {m : Nat} (c : Nat) {news : List Value} (hsrc : Src w A m news) (h1 : ∀ u ∈ news, u.oneCell' = true)
    (hA : A = none → m = 0) (hb : (xs.length + m) * bytes ≤ 140737488355328) (hbase : base ≤ w.heap.size) :
    ∃ v' w', (Builtin.append_ #[t, t] ty #[v, .slice A m c]).run P w = .ok v' w' ∧ Own w' base e v' (xs ++ news) ∧ Kp (fun k => some k = v.ownBlock) w w' ∧ (v'.ownBlock = v.ownBlock ∨ v'.ownBlock = some w.heap.size) := by
  obtain ⟨hl, hc⟩ := hsrc
  have hT' := hT
  obtain ⟨ht, hb0, i, z, hi, hz, hs, hby, hzs⟩ := hT
  have h63 : xs.length + m ≤ maxLen := by
    have : (xs.length + m) * 1 ≤ (xs.length + m) * bytes := Nat.mul_le_mul_left _ hb0
    unfold maxLen; omega
  rcases A with _ | ad
  · obtain rfl : m = 0 := hA rfl
    obtain rfl : news = [] := List.eq_nil_of_length_eq_zero hl
    exact ⟨v, w, run_app_nil t ty hT' hown c, by simpa using hown, Kp.refl _ _, .inl rfl⟩
  · have hcells : ∀ j u, news[j]? = some u → w.cell? (ad.add j) = some u := by
      intro j u hu
      rcases Nat.eq_zero_or_pos m with h0 | h0
      · obtain rfl : news = [] := List.eq_nil_of_length_eq_zero (by omega)
        simp at hu
      · obtain ⟨ad', h, hcc⟩ := hc h0
        injection h with h
        subst h
        exact hcc j u hu
    obtain ⟨v', w', hrun, h2, h3, _, h5⟩ := run_append_own_at (P := P) w base t ty e i z 1 bytes ht hi hz hs hby hzs (by omega) v xs.length xs hown ad m c news (by omega) hcells h1 h63 hb hbase
    exact ⟨v', w', hrun, by simpa [Own, hl] using h2, Kp.of_grown h3, h5⟩

theorem wp_app {o : Oper} {a : Act} {K : Act → World → Prop} {Q : Exit → Act → World → Prop} (s x : Operand) (t : TypeId)
    (ho : o.op = .call { callee := .builtin .append, args := #[s, x], argTypes := #[t, t] }) {bytes : Nat} (hT : AppOk P t e bytes) (hs : a.eval s = v) (hown : Own w base e v xs)
    {A : Option Addr} {m c : Nat} (hx : a.eval x = .slice A m c) {news : List Value} (hsrc : Src w A m news) (h1 : ∀ u ∈ news, u.oneCell' = true) (hA : A = none → m = 0)
    (hb : (xs.length + m) * bytes ≤ 140737488355328) (hbase : base ≤ w.heap.size)
    (h : ∀ v' w', Own w' base e v' (xs ++ news) → Kp (fun k => some k = v.ownBlock) w w' → (v'.ownBlock = v.ownBlock ∨ v'.ownBlock = some w.heap.size) → K (a.put o.dst v') w') : o.wp P a w K Q := by
  obtain ⟨v', w', hrun, h2, h3, h4⟩ := run_app t o.type hT hown c hsrc h1 hA hb hbase
  unfold Oper.wp execOp
  simp only [ho, resolve, invoke, builtin, Sem.run_bind, Sem.run_pure, Result.andThen_ok, List.map_toArray, List.map_cons, List.map_nil, hs, hx, hrun]
  exact h v' w' h2 h3 h4

theorem wpList_app {ops : Array Oper} {rest : List Oper} {o : Oper} {a : Act} {Q : Exit → Act → World → Prop} (hgd : o.guard = none) (s x : Operand) (t : TypeId)
    (ho : o.op = .call { callee := .builtin .append, args := #[s, x], argTypes := #[t, t] }) {bytes : Nat} (hT : AppOk P t e bytes) (hs : a.eval s = v) (hown : Own w base e v xs)
    {A : Option Addr} {m c : Nat} (hx : a.eval x = .slice A m c) {news : List Value} (hsrc : Src w A m news) (h1 : ∀ u ∈ news, u.oneCell' = true) (hA : A = none → m = 0)
    (hb : (xs.length + m) * bytes ≤ 140737488355328) (hbase : base ≤ w.heap.size)
    (h : ∀ v' w', Own w' base e v' (xs ++ news) → Kp (fun k => some k = v.ownBlock) w w' → (v'.ownBlock = v.ownBlock ∨ v'.ownBlock = some w.heap.size) → wpList P ops Q rest (a.put o.dst v') w') : wpList P ops Q (o :: rest) a w :=
  wpList_plain hgd fun _ hK => wp_app s x t ho hT hs hown hx hsrc h1 hA hb hbase fun v' w' h2 h3 h4 => hK _ _ (h v' w' h2 h3 h4)

/-- the same at a step of a region that draws its order -/
theorem step_app {ops : Array Oper} {o : Oper} {a : Act} {K : Act → World → Prop} {Q : Exit → Act → World → Prop} {E : Prop} (hgd : o.guard = none) (s x : Operand) (t : TypeId)
    (ho : o.op = .call { callee := .builtin .append, args := #[s, x], argTypes := #[t, t] }) {bytes : Nat} (hT : AppOk P t e bytes) (hs : a.eval s = v) (hown : Own w base e v xs)
    {A : Option Addr} {m c : Nat} (hx : a.eval x = .slice A m c) {news : List Value} (hsrc : Src w A m news) (h1 : ∀ u ∈ news, u.oneCell' = true) (hA : A = none → m = 0)
    (hb : (xs.length + m) * bytes ≤ 140737488355328) (hbase : base ≤ w.heap.size)
    (h : ∀ v' w', Own w' base e v' (xs ++ news) → Kp (fun k => some k = v.ownBlock) w w' → (v'.ownBlock = v.ownBlock ∨ v'.ownBlock = some w.heap.size) → K (a.put o.dst v') w') :
    if Region.wanted o (yielded ops a.tmps) = true then Oper.wp P o a w K Q else E := by
  have hw : Region.wanted o (yielded ops a.tmps) = true := by simp [Region.wanted, hgd]
  rw [if_pos hw]
  exact wp_app s x t ho hT hs hown hx hsrc h1 hA hb hbase h

/-- m cells of a list laid over another one from an offset on -/
def spl (cur : List Value) (off : Nat) (news : List Value) (m : Nat) : List Value := cur.take off ++ (news.take m ++ cur.drop (off + m))
/-- copy(d, s): d lies in block g, known whole -/
theorem run_cpy (dT sT ty : TypeId) (hu : P.underlying dT = some (.slice e)) (hsz : (P.info? e).map (·.size) = some 1) {g off dLen sLen : Nat} (dCap sCap : Nat) {D A : Option Addr} {cur news : List Value} {t : TypeId}
    (hg : w.heap[g]? = some (.cells cur.toArray t (0, 0))) (hsrc : Src w A sLen news) (h1 : ∀ u ∈ news, u.oneCell' = true) (hD : 0 < dLen → D = some ⟨g, off, none⟩) (hfit : off + dLen ≤ cur.length) :
    ∃ w', (Builtin.copy_ #[dT, sT] ty #[.slice D dLen dCap, .slice A sLen sCap]).run P w = .ok (goInt (min sLen dLen : Nat)) w' ∧
      w'.heap[g]? = some (.cells (spl cur off news (min sLen dLen)).toArray t (0, 0)) ∧ Kp (fun k => k = g) w w' := by
  obtain ⟨hl, hc⟩ := hsrc
  rcases Nat.eq_zero_or_pos (min sLen dLen) with h0 | h0
  · refine ⟨w, by rw [h0]; exact run_copy_none (P := P) w dT sT ty e D A dLen dCap sLen sCap hu hsz h0, ?_, Kp.refl _ _⟩
    rw [h0]; simpa [spl] using hg
  · obtain rfl := hD (by omega)
    obtain ⟨ad, rfl, hcell⟩ := hc (by omega)
    have hlen : (news.take (min sLen dLen)).length = min sLen dLen := by simp; omega
    have hr := run_copy_row (P := P) w dT sT ty e g off dLen dCap ad sLen sCap cur.toArray t (news.take (min sLen dLen)) hu hsz hg hlen
      (fun j v hj => hcell j v (by rw [List.getElem?_take] at hj; split at hj <;> simp_all)) (by rw [hlen]; simp; omega) (fun v hv => h1 v (List.mem_of_mem_take hv))
    rw [hlen] at hr
    refine ⟨_, hr, ?_, ⟨rfl, rfl, rfl, by simp, fun i hi hne => setRow_other w g i _ hne⟩⟩
    rw [setRow_heap w g _ _ t _ hg]
    simp [spl]

theorem wp_cpy {o : Oper} {a : Act} {K : Act → World → Prop} {Q : Exit → Act → World → Prop} (d s : Operand) (dT sT : TypeId)
    (ho : o.op = .call { callee := .builtin .copy, args := #[d, s], argTypes := #[dT, sT] }) (hu : P.underlying dT = some (.slice e)) (hsz : (P.info? e).map (·.size) = some 1) {g off dLen sLen dCap sCap : Nat} {D A : Option Addr}
    (hd : a.eval d = .slice D dLen dCap) (hs : a.eval s = .slice A sLen sCap) {cur news : List Value} {t : TypeId}
    (hg : w.heap[g]? = some (.cells cur.toArray t (0, 0))) (hsrc : Src w A sLen news) (h1 : ∀ u ∈ news, u.oneCell' = true) (hD : 0 < dLen → D = some ⟨g, off, none⟩) (hfit : off + dLen ≤ cur.length)
    (h : ∀ w', Hid (w'.heap[g]? = some (.cells (spl cur off news (min sLen dLen)).toArray t (0, 0))) → Hid (Kp (fun k => k = g) w w') → K (a.put o.dst (.int .i64 (min sLen dLen : Nat))) w') : o.wp P a w K Q := by
  obtain ⟨w', hrun, h2, h3⟩ := run_cpy dT sT o.type hu hsz dCap sCap hg hsrc h1 hD hfit
  unfold Oper.wp execOp
  simp only [ho, resolve, invoke, builtin, Sem.run_bind, Sem.run_pure, Result.andThen_ok, List.map_toArray, List.map_cons, List.map_nil, hs, hd, hrun]
  exact h w' h2 h3

theorem wpList_cpy {ops : Array Oper} {rest : List Oper} {o : Oper} {a : Act} {Q : Exit → Act → World → Prop} (hgd : o.guard = none) (d s : Operand) (dT sT : TypeId)
    (ho : o.op = .call { callee := .builtin .copy, args := #[d, s], argTypes := #[dT, sT] }) (hu : P.underlying dT = some (.slice e)) (hsz : (P.info? e).map (·.size) = some 1) {g off dLen sLen dCap sCap : Nat} {D A : Option Addr}
    (hd : a.eval d = .slice D dLen dCap) (hs : a.eval s = .slice A sLen sCap) {cur news : List Value} {t : TypeId}
    (hg : w.heap[g]? = some (.cells cur.toArray t (0, 0))) (hsrc : Src w A sLen news) (h1 : ∀ u ∈ news, u.oneCell' = true) (hD : 0 < dLen → D = some ⟨g, off, none⟩) (hfit : off + dLen ≤ cur.length)
    (h : ∀ w', Hid (w'.heap[g]? = some (.cells (spl cur off news (min sLen dLen)).toArray t (0, 0))) → Hid (Kp (fun k => k = g) w w') → wpList P ops Q rest (a.put o.dst (.int .i64 (min sLen dLen : Nat))) w') : wpList P ops Q (o :: rest) a w :=
  wpList_plain hgd fun _ hK => wp_cpy d s dT sT ho hu hsz hd hs hg hsrc h1 hD hfit fun w' h2 h3 => hK _ _ (h w' h2 h3)

theorem step_cpy {ops : Array Oper} {o : Oper} {a : Act} {K : Act → World → Prop} {Q : Exit → Act → World → Prop} {E : Prop} (hgd : o.guard = none) (d s : Operand) (dT sT : TypeId)
    (ho : o.op = .call { callee := .builtin .copy, args := #[d, s], argTypes := #[dT, sT] }) (hu : P.underlying dT = some (.slice e)) (hsz : (P.info? e).map (·.size) = some 1) {g off dLen sLen dCap sCap : Nat} {D A : Option Addr}
    (hd : a.eval d = .slice D dLen dCap) (hs : a.eval s = .slice A sLen sCap) {cur news : List Value} {t : TypeId}
    (hg : w.heap[g]? = some (.cells cur.toArray t (0, 0))) (hsrc : Src w A sLen news) (h1 : ∀ u ∈ news, u.oneCell' = true) (hD : 0 < dLen → D = some ⟨g, off, none⟩) (hfit : off + dLen ≤ cur.length)
    (h : ∀ w', Hid (w'.heap[g]? = some (.cells (spl cur off news (min sLen dLen)).toArray t (0, 0))) → Hid (Kp (fun k => k = g) w w') → K (a.put o.dst (.int .i64 (min sLen dLen : Nat))) w') :
    if Region.wanted o (yielded ops a.tmps) = true then Oper.wp P o a w K Q else E := by
  have hw : Region.wanted o (yielded ops a.tmps) = true := by simp [Region.wanted, hgd]
  rw [if_pos hw]
  exact wp_cpy d s dT sT ho hu hsz hd hs hg hsrc h1 hD hfit h
end
end Go.Proofs.YtfodkjpjejoemaaDoor
