/- Plain facts on memory that the walks of this claim share: a row of cells, a slice that reads as a list, what a slice owns behind calls and appends. No condition. -/
import Derived.Test.YtnaedpfaeioolaaRows
import Derived.WalkKit
import Derived.WalkSpells
import Derived.WalkLawsBesides
import Derived.Deep.LoopGhost
import Derived.Lib.Hide
namespace Go.Proofs.Ytnaedpfaeioolaa
open Go.RowKit

/-- The cells of a row, from the address on. -/
def Row (w : World) (a : Option Addr) (ys : List Value) : Prop :=
  ∀ j u, ys[j]? = some u → ∃ b o, a = some ⟨b, o, none⟩ ∧ w.cell? ⟨b, o + j, none⟩ = some u

theorem Row.ext {w w' : World} {a : Option Addr} {ys : List Value} (h : Row w a ys) (hb : Below w.heap.size w w') : Row w' a ys := by
  intro j u hj
  obtain ⟨b, o, ha, hc⟩ := h j u hj
  exact ⟨b, o, ha, cell_later hb hc⟩

theorem Row.nil (w : World) (a : Option Addr) : Row w a [] := by intro j u h; simp at h

/-- A slice value of n elements that reads as the cells ys. -/
def SliceV (w : World) (v : Value) (n : Nat) (ys : List Value) : Prop :=
  ∃ a cap, v = .slice a n cap ∧ n ≤ cap ∧ cap ≤ maxLen ∧ Row w a ys

theorem SliceV.ext {w w' : World} {v : Value} {n : Nat} {ys : List Value} (h : SliceV w v n ys) (hb : Below w.heap.size w w') : SliceV w' v n ys := by
  obtain ⟨a, cap, h1, h2, h3, h4⟩ := h
  exact ⟨a, cap, h1, h2, h3, h4.ext hb⟩

theorem addr_add (g j : Nat) : (⟨g, 0, none⟩ : Addr).add j = ⟨g, j, none⟩ := by
  unfold Addr.add
  split <;> simp_all

/-- A slice that owns a row reads as it. -/
theorem own_slice {w : World} {base : Nat} {e : TypeId} {size : Nat} {v : Value} {n : Nat} {xs : List Value} (h : w.ownsRow base e size v n xs) : SliceV w v n xs := by
  obtain ⟨h1, h2⟩ := h
  rcases h2 with ⟨rfl, rfl⟩ | ⟨g, cap, cur, rfl, hg, hh, hn, hc, hs, ht⟩
  · refine ⟨none, 0, rfl, Nat.le_refl _, Nat.zero_le _, ?_⟩
    intro j u hj
    have : xs = [] := List.eq_nil_of_length_eq_zero (by simpa using h1)
    subst this
    simp at hj
  · refine ⟨some ⟨g, 0, none⟩, cap, rfl, hn, hc, ?_⟩
    intro j u hj
    refine ⟨g, 0, rfl, ?_⟩
    have := World.ownsRow.cells (g := g) ⟨h1, Or.inr ⟨g, cap, cur, rfl, hg, hh, hn, hc, hs, ht⟩⟩ rfl j u hj
    rw [addr_add] at this
    simpa using this

theorem own_row {w : World} {base : Nat} {e : TypeId} {size : Nat} {a : Option Addr} {n cap m : Nat} {xs : List Value} (h : w.ownsRow base e size (.slice a n cap) m xs) : Row w a xs := by
  obtain ⟨a', cap', h1, h2, h3, h4⟩ := own_slice h
  simp at h1
  obtain ⟨rfl, _, _⟩ := h1
  exact h4

/-- What is owned stays owned where no block that was there has turned. -/
theorem own_ext {w w' : World} {base : Nat} {e : TypeId} {size : Nat} {v : Value} {n : Nat} {xs : List Value} (h : w.ownsRow base e size v n xs) (hb : Below w.heap.size w w') : w'.ownsRow base e size v n xs := by
  refine ⟨h.1, ?_⟩
  rcases h.2 with hn | ⟨g, cap, cur, rfl, hg, hh, r⟩
  · exact Or.inl hn
  · refine Or.inr ⟨g, cap, cur, rfl, hg, ?_, r⟩
    rw [hb.block g (Array.getElem?_eq_some_iff.1 hh).1]
    exact hh

theorem own_base {w : World} {base base' : Nat} {e : TypeId} {size : Nat} {v : Value} {n : Nat} {xs : List Value} (h : w.ownsRow base e size v n xs) (hb : base' ≤ base) : w.ownsRow base' e size v n xs := by
  refine ⟨h.1, ?_⟩
  rcases h.2 with hn | ⟨g, cap, cur, rfl, hg, hh, r⟩
  · exact Or.inl hn
  · exact Or.inr ⟨g, cap, cur, rfl, by omega, hh, r⟩

theorem below_grown {w w' : World} {base e size : Nat} {v : Value} {n : Nat} {xs : List Value} {B : Nat} {w0 : World} (h : Below B w0 w) (ho : w.ownsRow base e size v n xs) (hB : B ≤ base) (hs : B ≤ w.heap.size)
    (hg : w.grownBy w' v.ownBlock) : Below B w0 w' := by
  refine h.grown hg hs fun k hk => ?_
  have := (ho.lt k hk).1
  omega

theorem Below.size' {B : Nat} {w w' : World} (h : Below B w w') : w.heap.size ≤ w'.heap.size := h.size

/-- A slice of integers that reads as a list. -/
def IntsV (w : World) (v : Value) (xs : List Int) : Prop := SliceV w v xs.length (xs.map (Value.int .i64))

theorem IntsV.ext {w w' : World} {v : Value} {xs : List Int} (h : IntsV w v xs) (hb : Below w.heap.size w w') : IntsV w' v xs := SliceV.ext h hb

/-- One element of such a slice. -/
theorem Row.int {w : World} {a : Option Addr} {xs : List Int} (h : Row w a (xs.map (Value.int .i64))) (k : Nat) (hk : k < xs.length) :
    ∃ b o, a = some ⟨b, o, none⟩ ∧ w.cell? ⟨b, o + k, none⟩ = some (.int .i64 xs[k]) :=
  h k _ (by simp [hk])

/-- What an append leaves: the new slice owns its row; what the elder one held it still holds; no other block that was there has turned. -/
structure Grew (w w' : World) (base : Nat) (e : TypeId) (size : Nat) (v : Value) (n : Nat) (xs : List Value) (v' : Value) (n' : Nat) (xs' : List Value) : Prop where
  own : w'.ownsRow base e size v' n' xs'
  old : w'.ownsRow base e size v n xs
  by_ : w.grownBy w' v.ownBlock
  blk : ∀ k, v'.ownBlock = some k → v.ownBlock = some k ∨ k = w.heap.size

theorem run_append_grew {P : Program} (w : World) (base : Nat) (t ty e : TypeId) (i : TypeInfo) (z : Value) (size bytes : Nat) (ht : P.underlying t = some (.slice e)) (hi : P.info? e = some i) (hz : i.zero = some z)
    (hsize : i.size = size) (hby : i.bytes = bytes) (hzs : z.cells.size = size) (_hsz : 0 < size)
    (v : Value) (n : Nat) (xs : List Value) (hown : w.ownsRow base e size v n xs)
    (a : Addr) (m c : Nat) (news : List Value) (hm : 0 < m) (hl : news.length = m * size) (hnews : ∀ j u, news[j]? = some u → w.cell? (a.add j) = some u) (h1 : ∀ u ∈ news, u.oneCell' = true)
    (h63 : n + m ≤ maxLen) (hbytes : (n + m) * bytes ≤ 140737488355328) (hbase : base ≤ w.heap.size) :
    ∃ v' w', (Builtin.append_ #[t, t] ty #[v, .slice (some a) m c]).run P w = .ok v' w' ∧ Grew w w' base e size v n xs v' (n + m) (xs ++ news) := by
  subst hsize
  subst hby
  have hsmall : ((n + m : Nat) : Int) ≤ 9223372036854775807 := by simp only [maxLen] at h63; omega
  have hlen : (xs ++ news).length = (n + m) * i.size := by rw [List.length_append, hown.1, hl, Nat.add_mul]
  rcases hown.2 with ⟨rfl, rfl⟩ | ⟨g, cap, cur, rfl, hbg, hg, hnc, hcm, hcs, htake⟩
  · have hx : xs = [] := List.eq_nil_of_length_eq_zero (by simpa using hown.1)
    subst hx
    have hr := run_append_nil (P := P) w t ty e i z ht hi hz a m c news hl hnews hm (by omega) (by have hb := hbytes; simp only [Nat.zero_add] at hb; omega)
    refine ⟨_, _, hr, ⟨⟨hlen, .inr ⟨w.heap.size, grownCap w m 0 e, _, by simp, hbase, heap_alloc_new w.drew _, ?_, ?_, ?_, ?_⟩⟩, World.ownsRow_nil _ _ _ _, ⟨rfl, rfl, rfl, by simp, fun k hk _ => Below.heap_alloc w.drew _ k hk⟩, ?_⟩⟩
    · simpa using grownCap_ge w m 0 e
    · exact grownCap_le_maxLen w m 0 e (by omega)
    · have := grownCap_ge w m 0 e
      simp only [Array.size_append, List.size_toArray, size_zeroCells, hzs, hl, ← Nat.add_mul]
      congr 1
      omega
    · simp only [Array.toList_append, Nat.zero_add, List.nil_append]
      rw [← hl]
      exact List.take_left
    · intro k hk
      right
      simpa [Value.ownBlock] using hk.symm
  · by_cases hroom : n + m ≤ cap
    · have hfit : n * i.size + news.length ≤ cur.size := by rw [hl, hcs, ← Nat.add_mul]; exact Nat.mul_le_mul_right _ hroom
      have hr := run_append_room (P := P) w t ty e i ht hi g n cap cur hg a m c news hl hnews h1 hroom hfit
      have hsz : (cur.toList.take (n * i.size) ++ news ++ cur.toList.drop (n * i.size + news.length)).toArray.size = cap * i.size := by
        simp only [List.size_toArray, List.length_append, List.length_take, List.length_drop, Array.length_toList]
        omega
      refine ⟨_, _, hr, ⟨⟨hlen, .inr ⟨g, cap, _, rfl, hbg, setRow_heap w g cur _ e _ hg, hroom, hcm, hsz, ?_⟩⟩, ⟨hown.1, .inr ⟨g, cap, _, rfl, hbg, setRow_heap w g cur _ e _ hg, hnc, hcm, hsz, ?_⟩⟩,
        ⟨rfl, rfl, rfl, by simp, fun k hk hne => setRow_other w g k _ (fun e => hne (by simp [Value.ownBlock, e]))⟩, fun k hk => Or.inl hk⟩⟩
      · rw [htake, ← hlen]
        exact List.take_left
      · rw [htake, List.append_assoc, ← hown.1]
        exact List.take_left
    · have holds : ∀ j u, xs[j]? = some u → w.cell? ((⟨g, 0, none⟩ : Addr).add j) = some u := hown.cells (g := g) rfl
      have hr := run_append_grow (P := P) w t ty e i z ht hi hz ⟨g, 0, none⟩ n cap xs hown.1 holds a m c news hl hnews (by omega) hsmall (growslice_fits (by omega) hbytes)
      have hge := grownCap_ge w (n + m) cap e
      refine ⟨_, _, hr, ⟨⟨hlen, .inr ⟨w.heap.size, grownCap w (n + m) cap e, _, rfl, hbase, heap_alloc_new w.drew _, hge, grownCap_le_maxLen w (n + m) cap e h63, ?_, ?_⟩⟩, ?_,
        ⟨rfl, rfl, rfl, by simp, fun k hk _ => Below.heap_alloc w.drew _ k hk⟩, ?_⟩⟩
      · simp only [Array.size_append, List.size_toArray, size_zeroCells, hzs, hown.1, hl, ← Nat.add_mul]
        congr 1
        omega
      · simp only [Array.toList_append]
        rw [← hlen]
        exact List.take_left
      · exact (hown.drew).alloc _
      · intro k hk
        right
        simpa [Value.ownBlock] using hk.symm

/-- The same at the operation, for one value of one cell that has just been laid in a block of its own. -/
theorem wpList_app1 {P : Program} (W : World) {ops : Array Oper} {rest : List Oper} {o : Oper} {a : Act} {Q : Exit → Act → World → Prop} (hgd : o.guard = none) (s x : Operand) (t : TypeId)
    (ho : o.op = .call { callee := .builtin .append, args := #[s, x], argTypes := #[t, t] })
    (base : Nat) (e : TypeId) (z : Value) (bytes : Nat) (ht : P.underlying t = some (.slice e)) (hinfo : (P.info? e).map (fun i => (i.zero, i.size, i.bytes)) = some (some z, 1, bytes)) (hzs : z.cells.size = 1)
    (v : Value) (n : Nat) (xs : List Value) (u : Value) (hs : a.eval s = v) (hx : a.eval x = .slice (some ⟨W.heap.size, 0, none⟩) 1 1)
    (hown : W.ownsRow base e 1 v n xs) (h1 : u.oneCell' = true)
    (h63 : n + 1 ≤ maxLen) (hbytes : (n + 1) * bytes ≤ 140737488355328) (hbase : base ≤ W.heap.size)
    (h : ∀ v' w', w'.ownsRow base e 1 v' (n + 1) (xs ++ [u]) → w'.ownsRow base e 1 v n xs → W.grownBy w' v.ownBlock → (∀ k, v'.ownBlock = some k → v.ownBlock = some k ∨ W.heap.size ≤ k) → wpList P ops Q rest (a.put o.dst v') w') :
    wpList P ops Q (o :: rest) a (W.alloc (.cells #[u] e)) := by
  obtain ⟨i, hi, hz, hsize, hby⟩ := info_parts hinfo
  refine wpList_plain hgd fun K hK => ?_
  obtain ⟨v', w', hr, g⟩ := run_append_grew (P := P) (W.alloc (.cells #[u] e)) base t o.type e i z 1 bytes ht hi hz hsize hby hzs (by decide) v n xs (hown.alloc _) ⟨W.heap.size, 0, none⟩ 1 1 [u] (by decide) rfl
    (cell_one_new _ _ _) (by intro y hy; simp at hy; subst hy; exact h1) h63 hbytes (by simp; omega)
  unfold Oper.wp execOp
  simp only [ho, resolve, invoke, builtin, Sem.run_bind, Sem.run_pure, Result.andThen_ok, List.map_toArray, List.map_cons, List.map_nil, hs, hx, hr]
  refine hK _ _ (h v' w' g.own g.old ?_ ?_)
  · exact ⟨g.by_.os, g.by_.tape, g.by_.output, by have := g.by_.size; simp at this; omega, fun k hk hne => by
      rw [g.by_.block k (by simp; omega) hne]; exact Below.heap_alloc W _ k hk⟩
  · intro k hk
    rcases g.blk k hk with h | h
    · exact Or.inl h
    · right; subst h; simp

/-- The same where the heap's size is spelt otherwise. -/
theorem wpList_app1s {P : Program} (W : World) {ops : Array Oper} {rest : List Oper} {o : Oper} {a : Act} {Q : Exit → Act → World → Prop} (hgd : o.guard = none) (s x : Operand) (t : TypeId)
    (ho : o.op = .call { callee := .builtin .append, args := #[s, x], argTypes := #[t, t] })
    (base : Nat) (e : TypeId) (z : Value) (bytes : Nat) (ht : P.underlying t = some (.slice e)) (hinfo : (P.info? e).map (fun i => (i.zero, i.size, i.bytes)) = some (some z, 1, bytes)) (hzs : z.cells.size = 1)
    (v : Value) (n : Nat) (xs : List Value) (u : Value) (S : Nat) (hs : a.eval s = v) (hx : a.eval x = .slice (some ⟨S, 0, none⟩) 1 1) (hS : S = W.heap.size)
    (hown : W.ownsRow base e 1 v n xs) (h1 : u.oneCell' = true)
    (h63 : n + 1 ≤ maxLen) (hbytes : (n + 1) * bytes ≤ 140737488355328) (hbase : base ≤ W.heap.size)
    (h : ∀ v' w', w'.ownsRow base e 1 v' (n + 1) (xs ++ [u]) → w'.ownsRow base e 1 v n xs → W.grownBy w' v.ownBlock → (∀ k, v'.ownBlock = some k → v.ownBlock = some k ∨ W.heap.size ≤ k) → wpList P ops Q rest (a.put o.dst v') w') :
    wpList P ops Q (o :: rest) a (W.alloc (.cells #[u] e)) := by
  subst hS
  exact wpList_app1 W hgd s x t ho base e z bytes ht hinfo hzs v n xs u hs hx hown h1 h63 hbytes hbase h

/-- A slice of slices of integers that reads as a list of lists. -/
def LL (w : World) (v : Value) (xss : List (List Int)) : Prop :=
  ∃ vs : List Value, SliceV w v xss.length vs ∧ vs.length = xss.length ∧ ∀ (i : Nat) u xs, vs[i]? = some u → xss[i]? = some xs → IntsV w u xs

theorem LL.ext {w w' : World} {v : Value} {xss : List (List Int)} (h : LL w v xss) (hb : Below w.heap.size w w') : LL w' v xss := by
  obtain ⟨vs, h1, h2, h3⟩ := h
  exact ⟨vs, h1.ext hb, h2, fun i u xs hu hx => (h3 i u xs hu hx).ext hb⟩

theorem below_refl_drewN (B : Nat) (w : World) (n : Nat) : Below B w (w.drewN n) := below_drewN (Below.refl B w) n

/-- A slice of the program's own whose array is of integers. -/
def IntsO (w : World) (v : Value) (xs : List Int) : Prop := w.ownsRow 0 3 1 v xs.length (xs.map (Value.int .i64))

theorem IntsO.ext {w w' : World} {v : Value} {xs : List Int} (h : IntsO w v xs) (hb : Below w.heap.size w w') : IntsO w' v xs := own_ext h hb
theorem IntsO.ints {w : World} {v : Value} {xs : List Int} (h : IntsO w v xs) : IntsV w v xs := own_slice h

/-- What is owned stays owned where the one row that has turned is of another element type. -/
theorem own_other {w w' : World} {base : Nat} {e e' : TypeId} {size : Nat} {v : Value} {n : Nat} {xs : List Value} {base' size' : Nat} {v' : Value} {n' : Nat} {xs' : List Value}
    (h : w.ownsRow base e size v n xs) (ho : w.ownsRow base' e' size' v' n' xs') (he : e ≠ e') (hg : w.grownBy w' v'.ownBlock) : w'.ownsRow base e size v n xs := by
  refine h.kept hg ?_
  cases hv : v.ownBlock with
  | none => exact Or.inl rfl
  | some k =>
    right
    intro e1
    rcases h.2 with ⟨rfl, _⟩ | ⟨g, cap, cur, rfl, _, hh, _⟩
    · simp [Value.ownBlock] at hv
    · rcases ho.2 with ⟨rfl, _⟩ | ⟨g', cap', cur', rfl, _, hh', _⟩
      · simp [Value.ownBlock] at e1
      · simp [Value.ownBlock] at e1 hv
        subst hv
        subst e1
        rw [hh] at hh'
        simp at hh'
        exact he hh'.2

/-- A slice of the program's own of slices of integers of its own. -/
def LLO (w : World) (base : Nat) (v : Value) (xss : List (List Int)) : Prop :=
  ∃ vs : List Value, w.ownsRow base 22 1 v xss.length vs ∧ ∀ (i : Nat) u xs, vs[i]? = some u → xss[i]? = some xs → IntsO w u xs

theorem LLO.len {w : World} {base : Nat} {v : Value} {xss : List (List Int)} {vs : List Value} (h : w.ownsRow base 22 1 v xss.length vs) : vs.length = xss.length := by simpa using h.1

theorem LLO.ext {w w' : World} {base : Nat} {v : Value} {xss : List (List Int)} (h : LLO w base v xss) (hb : Below w.heap.size w w') : LLO w' base v xss := by
  obtain ⟨vs, h1, h2⟩ := h
  exact ⟨vs, own_ext h1 hb, fun i u xs hu hx => (h2 i u xs hu hx).ext hb⟩

theorem LLO.ll {w : World} {base : Nat} {v : Value} {xss : List (List Int)} (h : LLO w base v xss) : LL w v xss := by
  obtain ⟨vs, h1, h2⟩ := h
  exact ⟨vs, own_slice h1, LLO.len h1, fun i u xs hu hx => (h2 i u xs hu hx).ints⟩

theorem LLO.nil (w : World) (base : Nat) : LLO w base (.slice none 0 0) [] := ⟨[], World.ownsRow_nil _ _ _ _, by intro i u xs h; simp at h⟩

/-- One list more. -/
theorem LLO.snoc {w w1 : World} {base : Nat} {v v' c : Value} {xss : List (List Int)} {xs : List Int} {vs : List Value} (h : w.ownsRow base 22 1 v xss.length vs)
    (h2 : ∀ (i : Nat) u xs, vs[i]? = some u → xss[i]? = some xs → IntsO w u xs) (hc : IntsO w c xs)
    (hown : w1.ownsRow base 22 1 v' (xss.length + 1) (vs ++ [c])) (hg : w.grownBy w1 v.ownBlock) : LLO w1 base v' (xss ++ [xs]) := by
  have hl : vs.length = xss.length := LLO.len h
  refine ⟨vs ++ [c], by simpa using hown, ?_⟩
  intro i u ys hu hy
  by_cases hi : i < xss.length
  · rw [List.getElem?_append_left (by omega)] at hu hy
    exact own_other (h2 i u ys hu hy) h (by decide) hg
  · by_cases he : i = xss.length
    · subst he
      rw [List.getElem?_append_right (by omega), hl] at hu
      rw [List.getElem?_append_right (by omega)] at hy
      simp at hu hy
      subst hu
      subst hy
      exact own_other hc h (by decide) hg
    · rw [List.getElem?_eq_none (by simp; omega)] at hu
      cases hu

theorem Try.info3 : (Try.prog.info? 3).map (fun i => (i.zero, i.size, i.bytes)) = some (some (.int .i64 0), 1, 8) := by kernel_rfl
theorem Try.info4 : (Try.prog.info? 4).map (fun i => (i.zero, i.size, i.bytes)) = some (some (.bool false), 1, 1) := by kernel_rfl
theorem Try.info22 : (Try.prog.info? 22).map (fun i => (i.zero, i.size, i.bytes)) = some (some (.slice none 0 0), 1, 24) := by kernel_rfl

theorem Try.info84 : (Try.prog.info? 84).map (fun i => (i.zero, i.size, i.bytes)) = some (some .nilIface, 1, 16) := by kernel_rfl
theorem Try.info78 : (Try.prog.info? 78).map (fun i => (i.zero, i.size, i.bytes)) = some (some (.pointer none), 1, 8) := by kernel_rfl

theorem ret_int {k : IntKind} {a b : Int} (h : a = b) : Ending.returned (.int k a) = .returned (.int k b) := by rw [h]
theorem ret_bool {a b : Bool} (h : a = b) : Ending.returned (.bool a) = .returned (.bool b) := by rw [h]

end Go.Proofs.Ytnaedpfaeioolaa
