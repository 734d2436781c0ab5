/- A queue: a slice of integers of the call's own whose head moves on. -/
import Derived.Test.YtnaedpfaeioolaaXc
namespace Go.Proofs.Ytnaedpfaeioolaa
open Go.RowKit
set_option linter.unusedVariables false

/-- A slice of a row of the call's own, from some place on. -/
structure QOwn (w : World) (base g : Nat) (v : Value) (xs : List Value) : Prop where
  ex : ∃ (o cap : Nat) (cur : Array Value), v = .slice (some ⟨g, o, none⟩) xs.length cap ∧ base ≤ g ∧ w.heap[g]? = some (.cells cur 3 (0, 0)) ∧ xs.length ≤ cap ∧ cap ≤ maxLen ∧ o + cap ≤ cur.size ∧ ∀ (j : Nat) (u : Value), xs[j]? = some u → cur[o + j]? = some u

theorem QOwn.keep {w w' : World} {base g : Nat} {v : Value} {xs : List Value} (h : QOwn w base g v xs) (hk : w'.heap[g]? = w.heap[g]?) : QOwn w' base g v xs := by
  obtain ⟨o, cap, cur, h1, h2, h3, h4⟩ := h.ex
  exact ⟨o, cap, cur, h1, h2, hk.trans h3, h4⟩
theorem QOwn.lt {w : World} {base g : Nat} {v : Value} {xs : List Value} (h : QOwn w base g v xs) : base ≤ g ∧ g < w.heap.size := by
  obtain ⟨o, cap, cur, h1, h2, h3, h4⟩ := h.ex
  exact ⟨h2, heap_lt' h3⟩
where heap_lt' {w : World} {b : Nat} {o : Obj} (h : w.heap[b]? = some o) : b < w.heap.size := (Array.getElem?_eq_some_iff.1 h).1

section
variable {P : Program}

theorem run_append_roomq (w : World) (t ty e : TypeId) (i : TypeInfo) (ht : P.underlying t = some (.slice e)) (hi : P.info? e = some i) (hs : i.size = 1)
    (g o n cap : Nat) (cur : Array Value) (hg : w.heap[g]? = some (.cells cur e (0, 0)))
    (a : Addr) (m c : Nat) (news : List Value) (hl : news.length = m) (hnews : ∀ j u, news[j]? = some u → w.cell? (a.add j) = some u) (h1 : ∀ u ∈ news, u.oneCell' = true)
    (hroom : n + m ≤ cap) (hfit : o + n + m ≤ cur.size) :
    (Builtin.append_ #[t, t] ty #[.slice (some ⟨g, o, none⟩) n cap, .slice (some a) m c]).run P w =
      .ok (.slice (some ⟨g, o, none⟩) (n + m) cap) (w.setRow g (cur.toList.take (o + n) ++ news ++ cur.toList.drop (o + n + m)).toArray) := by
  have hf := run_firstCells_some (P := P) w i.size m a m c news (by rw [hs, hl]; omega) hnews
  have hst := run_storeCells_at P g (o + n * i.size) e news 0 cur w hg (by rw [hs, hl]; omega) h1
  rw [hs] at hst hf
  simp only [Nat.add_zero, Nat.mul_one, hl] at hst
  simp [Builtin.append_, run_underlying ht, sizeOf, typeInfo, hi, hs, Builtin.lenOf, hroom, hf, Addr.add_lit, hst]

theorem run_append_q (w : World) (t ty : TypeId) (i : TypeInfo) (ht : P.underlying t = some (.slice 3)) (hi : P.info? 3 = some i) (hz : i.zero = some (.int .i64 0)) (hs : i.size = 1) (hby : i.bytes = 8)
    (base g : Nat) (v : Value) (xs : List Value) (h : QOwn w base g v xs) (a : Option Addr) (m c : Nat) (ys : List Value) (hl : ys.length = m) (hr : Row w a ys) (h1 : ∀ u ∈ ys, u.oneCell' = true) (hbase : base ≤ w.heap.size) (hlen : xs.length + m ≤ 1000000) :
    ∃ v' w' g', (Builtin.append_ #[t, t] ty #[v, .slice a m c]).run P w = .ok v' w' ∧ QOwn w' base g' v' (xs ++ ys) ∧ w.grownBy w' (some g) ∧ (g' = g ∨ w.heap.size ≤ g') := by
  obtain ⟨o, cap, cur, rfl, hbg, hg, hnc, hcm, hsz, hat⟩ := h.ex
  cases a with
  | none =>
    have hm0 : m = 0 := by
      cases ys with
      | nil => exact hl.symm
      | cons u ys => obtain ⟨_, _, e, _⟩ := hr 0 u rfl; cases e
    subst hm0
    have hy : ys = [] := List.eq_nil_of_length_eq_zero hl
    subst hy
    refine ⟨.slice (some ⟨g, o, none⟩) xs.length cap, w, g, by simp [Builtin.append_, run_underlying ht, sizeOf, typeInfo, hi, Builtin.lenOf, Builtin.firstCells, hnc, storeCells], by simpa using h, ⟨rfl, rfl, rfl, Nat.le_refl _, fun _ _ _ => rfl⟩, Or.inl rfl⟩
  | some a =>
    have hnews : ∀ j u, ys[j]? = some u → w.cell? (a.add j) = some u := by
      intro j u hj
      obtain ⟨b, o', e, hc⟩ := hr j u hj
      simp at e
      subst e
      unfold Addr.add
      split
      · rename_i h; subst h; exact hc
      · exact hc
    by_cases hroom : xs.length + m ≤ cap
    · have hr := run_append_roomq (P := P) w t ty 3 i ht hi hs g o xs.length cap cur hg a m c ys hl hnews h1 hroom (by omega)
      refine ⟨_, _, g, hr, ⟨o, cap, _, by rw [List.length_append, hl], hbg, setRow_heap w g cur _ 3 _ hg, by rw [List.length_append, hl]; exact hroom, hcm, ?_, ?_⟩, ⟨rfl, rfl, rfl, by simp, fun k hk hne => setRow_other w g k _ (fun e => hne (by rw [e]))⟩, Or.inl rfl⟩
      · simp only [List.size_toArray, List.length_append, List.length_take, List.length_drop, Array.length_toList]
        omega
      · intro j u hj
        simp only [List.getElem?_toArray]
        by_cases hjx : j < xs.length
        · rw [List.getElem?_append_left hjx] at hj
          have hc := hat j u hj
          rw [List.append_assoc, List.getElem?_append_left (by simp; omega), List.getElem?_take, if_pos (by omega)]
          simpa using hc
        · rw [List.getElem?_append_right (by omega)] at hj
          have hjy := (List.getElem?_eq_some_iff.1 hj).1
          have hlt : (cur.toList.take (o + xs.length)).length = o + xs.length := by simp; omega
          rw [List.append_assoc, List.getElem?_append_right (by rw [hlt]; omega), hlt, List.getElem?_append_left (by omega), show o + j - (o + xs.length) = j - xs.length from by omega]
          exact hj
    · have holds : ∀ j u, xs[j]? = some u → w.cell? ((⟨g, o, none⟩ : Addr).add j) = some u := by
        intro j u hj
        rw [Addr.add_lit]
        simp [World.cell?, hg, hat j u hj]
      have hr := run_append_grow (P := P) w t ty 3 i _ ht hi hz ⟨g, o, none⟩ xs.length cap xs (by rw [hs]; omega) holds a m c ys (by rw [hs]; omega) hnews (by omega) (by omega) (growslice_fits (by omega) (by rw [hby]; omega))
      have hge := grownCap_ge w (xs.length + m) cap 3
      refine ⟨_, _, w.heap.size, hr, ⟨0, grownCap w (xs.length + m) cap 3, _, by rw [List.length_append, hl], hbase, heap_alloc_new w.drew _, by rw [List.length_append, hl]; exact hge, grownCap_le_maxLen w (xs.length + m) cap 3 (by simp only [maxLen]; omega), ?_, ?_⟩,
        ⟨rfl, rfl, rfl, by simp, fun k hk _ => Below.heap_alloc w.drew _ k hk⟩, Or.inr (Nat.le_refl _)⟩
      · simp only [Array.size_append, List.size_toArray, size_zeroCells, show (Value.int .i64 0).cells.size = 1 from rfl]
        omega
      · intro j u hj
        have hjl := (List.getElem?_eq_some_iff.1 hj).1
        rw [Nat.zero_add, Array.getElem?_append_left (by simp at hjl ⊢; omega), List.append_toArray, List.getElem?_toArray]
        exact hj

/-- The same in a list of operations. -/
theorem wpList_appq {ops : Array Oper} {rest : List Oper} {op : Oper} {ac : Act} {Q : Exit → Act → World → Prop} (W : World) (hgd : op.guard = none) (s x : Operand) (t : TypeId)
    (ho : op.op = .call { callee := .builtin .append, args := #[s, x], argTypes := #[t, t] }) (ht : P.underlying t = some (.slice 3))
    (hinfo : (P.info? 3).map (fun i => (i.zero, i.size, i.bytes)) = some (some (.int .i64 0), 1, 8)) (base g : Nat) (v : Value) (xs : List Value) (hsv : ac.eval s = v) (h : QOwn W base g v xs)
    (a : Option Addr) (m c : Nat) (hx : ac.eval x = .slice a m c) (ys : List Value) (hl : ys.length = m) (hr : Row W a ys) (h1 : ∀ u ∈ ys, u.oneCell' = true) (hbase : base ≤ W.heap.size) (hlen : xs.length + m ≤ 1000000)
    (hk : ∀ v' w' g', QOwn w' base g' v' (xs ++ ys) → W.grownBy w' (some g) → (g' = g ∨ W.heap.size ≤ g') → wpList P ops Q rest (ac.put op.dst v') w') :
    wpList P ops Q (op :: rest) ac W := by
  obtain ⟨i, hi, hz, hsize, hby⟩ := info_parts hinfo
  refine wpList_plain hgd fun K hK => ?_
  obtain ⟨v', w', g', hr', q1, q2, q3⟩ := run_append_q (P := P) W t op.type i ht hi hz hsize hby base g v xs h a m c ys hl hr h1 hbase hlen
  unfold Oper.wp execOp
  simp only [ho, resolve, invoke, builtin, Sem.run_bind, Sem.run_pure, Result.andThen_ok, List.map_toArray, List.map_cons, List.map_nil, hsv, hx, hr']
  exact hK _ _ (hk v' w' g' q1 q2 q3)
end

end Go.Proofs.Ytnaedpfaeioolaa
