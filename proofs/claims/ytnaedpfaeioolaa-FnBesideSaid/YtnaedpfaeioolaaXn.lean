/- Facts on memory for the statement FnBeside: rows of truth values one behind the other; lists of lists where one row has turned. -/
import Derived.Test.YtnaedpfaeioolaaYe
import Derived.Test.YtnaedpfaeioolaaXc
namespace Go.Proofs.Ytnaedpfaeioolaa
open Go.RowKit
set_option linter.unusedVariables false

theorem own_diff {w : World} {B B' : Nat} {e e' : TypeId} {s s' n n' : Nat} {v c : Value} {xs ys : List Value} (h : w.ownsRow B e s v n xs) (hc : w.ownsRow B' e' s' c n' ys) (he : e ≠ e') : ∀ b, v.ownBlock = some b → c.ownBlock ≠ some b := by
  intro b hb hb'
  rcases h.2 with ⟨rfl, _⟩ | ⟨g, _, cur, rfl, _, hh, _⟩
  · simp [Value.ownBlock] at hb
  · rcases hc.2 with ⟨rfl, _⟩ | ⟨g', _, cur', rfl, _, hh', _⟩
    · simp [Value.ownBlock] at hb'
    · simp [Value.ownBlock] at hb hb'
      subst hb
      subst hb'
      rw [hh] at hh'
      simp at hh'
      exact he hh'.2

/-- Lists of lists whose rows lie elsewhere than the one that has turned. -/
theorem LLO.grw {w w' : World} {base B : Nat} {v c c' : Value} {n : Nat} {xss : List (List Int)} {ys : List Value} (h : LLO w base v xss) (hc : w.ownsRow B 22 1 c n ys) (hb : ∀ b, c.ownBlock = some b → b < base) (hg : Grw w w' c c') : LLO w' base v xss := by
  obtain ⟨vs, h1, h2⟩ := h
  refine ⟨vs, own_keep h1 fun g hgv => hg.by_.block g (h1.lt g hgv).2 fun e => ?_, fun i u xs hu hx => ?_⟩
  · have := hb g e.symm
    have := (h1.lt g hgv).1
    omega
  · have h3 := h2 i u xs hu hx
    exact own_keep h3 fun g hgv => hg.by_.block g (h3.lt g hgv).2 fun e => own_diff h3 hc (by decide) g hgv e.symm

section
variable {P : Program}

/-- A row of truth values is appended to one of the call's own. -/
theorem run_append_bools (w : World) (t ty : TypeId) (i : TypeInfo) (ht : P.underlying t = some (.slice 4)) (hi : P.info? 4 = some i) (hz : i.zero = some (.bool false)) (hs : i.size = 1) (hby : i.bytes = 1)
    (base : Nat) (v : Value) (n : Nat) (xs : List Value) (h : w.ownsRow base 4 1 v n xs) (a : Option Addr) (m c : Nat) (ys : List Value) (hl : ys.length = m) (hr : Row w a ys) (h1 : ∀ u ∈ ys, u.oneCell' = true) (hbase : base ≤ w.heap.size) (hlen : n + m ≤ 1000000) :
    ∃ v' w', (Builtin.append_ #[t, t] ty #[v, .slice a m c]).run P w = .ok v' w' ∧ w'.ownsRow base 4 1 v' (n + m) (xs ++ ys) ∧ Grw w w' v v' := by
  by_cases hm : 0 < m
  · obtain ⟨u0, hu0⟩ : ∃ u, ys[0]? = some u := ⟨_, List.getElem?_eq_getElem (by omega)⟩
    obtain ⟨b, o, rfl, _⟩ := hr 0 u0 hu0
    obtain ⟨v', w', hr', g⟩ := run_append_grew (P := P) w base t ty 4 i _ 1 1 ht hi hz hs hby rfl (by decide) v n xs h ⟨b, o, none⟩ m c ys hm (by omega)
      (fun j u hj => by
        obtain ⟨b', o', e, hc⟩ := hr j u hj
        simp at e
        obtain ⟨rfl, rfl⟩ := e
        unfold Addr.add
        split
        · rename_i h; subst h; exact hc
        · exact hc) h1 (by simp only [maxLen]; omega) (by omega) hbase
    exact ⟨v', w', hr', g.own, g.by_, fun k hk => (g.blk k hk).imp id fun e => by omega⟩
  · have hm0 : m = 0 := by omega
    subst hm0
    have hy : ys = [] := List.eq_nil_of_length_eq_zero hl
    subst hy
    cases a with
    | none => exact ⟨v, w, run_append_none' w base t ty 4 i 1 ht hi v n xs h c, by simpa using h, Grw.refl _ _⟩
    | some a =>
      rcases h.2 with ⟨rfl, rfl⟩ | ⟨g, cap, cur, rfl, hh⟩
      · refine ⟨.slice none 0 0, w, by simp [Builtin.append_, run_underlying ht, sizeOf, typeInfo, hi, Builtin.lenOf, Builtin.firstCells, loadCells, loadCellsFrom], by simpa using h, Grw.refl _ _⟩
      · obtain ⟨w', hr', ho, hg⟩ := run_append_fits (P := P) w base t ty 4 i 1 ht hi hs g n cap xs h a 0 c [] rfl (by intro j u h; simp at h) (by simp) (by omega)
        exact ⟨_, w', hr', ho, hg, fun k hk => Or.inl hk⟩

/-- The same at the operation. -/
theorem wp_appB {op : Oper} {ac : Act} {Q : Exit → Act → World → Prop} (W : World) (s x : Operand) (t : TypeId)
    (ho : op.op = .call { callee := .builtin .append, args := #[s, x], argTypes := #[t, t] }) (ht : P.underlying t = some (.slice 4))
    (hinfo : (P.info? 4).map (fun i => (i.zero, i.size, i.bytes)) = some (some (.bool false), 1, 1)) (base : Nat) (v : Value) (n : Nat) (xs : List Value) (hsv : ac.eval s = v) (h : W.ownsRow base 4 1 v n xs)
    (a : Option Addr) (m c : Nat) (hx : ac.eval x = .slice a m c) (ys : List Value) (hl : ys.length = m) (hr : Row W a ys) (h1 : ∀ u ∈ ys, u.oneCell' = true) (hbase : base ≤ W.heap.size) (hlen : n + m ≤ 1000000)
    (K : Act → World → Prop) (hk : ∀ v' w', w'.ownsRow base 4 1 v' (n + m) (xs ++ ys) → Grw W w' v v' → K (ac.put op.dst v') w') :
    op.wp P ac W K Q := by
  obtain ⟨i, hi, hz, hsize, hby⟩ := info_parts hinfo
  obtain ⟨v', w', hr', q1, q2⟩ := run_append_bools (P := P) W t op.type i ht hi hz hsize hby base v n xs h a m c ys hl hr h1 hbase hlen
  unfold Oper.wp execOp
  simp only [ho, resolve, invoke, builtin, Sem.run_bind, Sem.run_pure, Result.andThen_ok, List.map_toArray, List.map_cons, List.map_nil, hsv, hx, hr']
  exact hk v' w' q1 q2

/-- The same in a list of operations, at one that is guarded and wanted. -/
theorem wpList_appBg {ops : Array Oper} {rest : List Oper} {op : Oper} {ac : Act} {Q : Exit → Act → World → Prop} (W : World) (hw : Region.wanted op (yielded ops ac.tmps) = true) (s x : Operand) (t : TypeId)
    (ho : op.op = .call { callee := .builtin .append, args := #[s, x], argTypes := #[t, t] }) (ht : P.underlying t = some (.slice 4))
    (hinfo : (P.info? 4).map (fun i => (i.zero, i.size, i.bytes)) = some (some (.bool false), 1, 1)) (base : Nat) (v : Value) (n : Nat) (xs : List Value) (hsv : ac.eval s = v) (h : W.ownsRow base 4 1 v n xs)
    (a : Option Addr) (m c : Nat) (hx : ac.eval x = .slice a m c) (ys : List Value) (hl : ys.length = m) (hr : Row W a ys) (h1 : ∀ u ∈ ys, u.oneCell' = true) (hbase : base ≤ W.heap.size) (hlen : n + m ≤ 1000000)
    (hk : ∀ v' w', w'.ownsRow base 4 1 v' (n + m) (xs ++ ys) → Grw W w' v v' → wpList P ops Q rest (ac.put op.dst v') w') :
    wpList P ops Q (op :: rest) ac W :=
  wpList_step fun K hK => by
    rw [if_pos hw]
    exact wp_appB W s x t ho ht hinfo base v n xs hsv h a m c hx ys hl hr h1 hbase hlen K fun v' w' q1 q2 => hK _ _ (hk v' w' q1 q2)
end

end Go.Proofs.Ytnaedpfaeioolaa
