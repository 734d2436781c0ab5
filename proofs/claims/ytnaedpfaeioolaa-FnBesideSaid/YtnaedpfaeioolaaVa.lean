/- Trees and declarations as plain data, and how they lie in memory; laws on appends of elements of several cells. -/
import Derived.Test.YtnaedpfaeioolaaTF
import Derived.Deep.RegionHeld3
import Derived.Deep.AppendLies
namespace Go.Proofs.Ytnaedpfaeioolaa
open Go.RowKit
set_option linter.unusedVariables false

/-- A type as data. -/
inductive T where
  | mk (kind num : Int) (elem : List T)

theorem T.ind {P : T → Prop} (h : ∀ k n es, (∀ e ∈ es, P e) → P (.mk k n es)) : ∀ t, P t
  | .mk k n es => h k n es fun e he => T.ind h e
termination_by t => SizeOf.sizeOf t
decreasing_by
  have := List.sizeOf_lt_of_mem he
  simp
  omega

/-- A declaration as data. -/
structure D where
  alias : Bool
  of : T

abbrev V3 := Value × Value × Value
def agg3 (p : V3) : Value := .agg #[p.1, p.2.1, p.2.2]
def flat3 : List V3 → List Value
  | [] => []
  | p :: ps => p.1 :: p.2.1 :: p.2.2 :: flat3 ps

theorem flat3_append (a b : List V3) : flat3 (a ++ b) = flat3 a ++ flat3 b := by
  induction a with
  | nil => rfl
  | cons p a ih => simp [flat3, ih]
theorem flat3_len (a : List V3) : (flat3 a).length = a.length * 3 := by
  induction a with
  | nil => rfl
  | cons p a ih => simp [flat3, ih]; omega
theorem flat3_get : ∀ (ps : List V3) (i : Nat) (p : V3), ps[i]? = some p → (flat3 ps)[i * 3]? = some p.1 ∧ (flat3 ps)[i * 3 + 1]? = some p.2.1 ∧ (flat3 ps)[i * 3 + 2]? = some p.2.2
  | [], i, p, h => by simp at h
  | q :: ps, 0, p, h => by simp at h; subst h; simp [flat3]
  | q :: ps, i + 1, p, h => by
    have ih := flat3_get ps i p (by simpa using h)
    rw [show (i + 1) * 3 = i * 3 + 3 from by omega]
    simpa [flat3] using ih

theorem row3 {w : World} {a : Option Addr} {ps : List V3} (h : Row w a (flat3 ps)) {i : Nat} {p : V3} (hi : ps[i]? = some p) :
    ∃ b o, a = some ⟨b, o, none⟩ ∧ w.cell? ⟨b, o + i * 3, none⟩ = some p.1 ∧ w.cell? ⟨b, o + i * 3 + 1, none⟩ = some p.2.1 ∧ w.cell? ⟨b, o + i * 3 + 2, none⟩ = some p.2.2 := by
  obtain ⟨h0, h1, h2⟩ := flat3_get ps i p hi
  obtain ⟨b, o, rfl, c0⟩ := h _ _ h0
  obtain ⟨_, _, e1, c1⟩ := h _ _ h1
  obtain ⟨_, _, e2, c2⟩ := h _ _ h2
  simp at e1 e2
  obtain ⟨rfl, rfl⟩ := e1
  obtain ⟨rfl, rfl⟩ := e2
  exact ⟨_, _, rfl, c0, by rw [Nat.add_assoc]; exact c1, by rw [Nat.add_assoc]; exact c2⟩

/-- A tree by value, as it reads in memory; the rows of its elements lie in blocks of which S holds. -/
inductive TV (w : World) (S : Nat → Prop) : Value → T → Prop
  | mk (k n : Int) (a : Option Addr) (cap : Nat) (ts : List T) (ps : List V3) (hl : ps.length = ts.length) (hc : ts.length ≤ cap) (hm : cap ≤ maxLen) (hr : Row w a (flat3 ps))
      (hS : ∀ b o, ps ≠ [] → a = some ⟨b, o, none⟩ → S b)
      (he : ∀ (i : Nat) (p : V3) (t : T), ps[i]? = some p → ts[i]? = some t → TV w S (agg3 p) t) : TV w S (.agg #[.int .i64 k, .int .i64 n, .slice a ts.length cap]) (.mk k n ts)

/-- Any blocks. -/
abbrev Any : Nat → Prop := fun _ => True

theorem cell_keep {w w' : World} {b o : Nat} {u : Value} (h : w.cell? ⟨b, o, none⟩ = some u) (hk : b < w.heap.size → w'.heap[b]? = w.heap[b]?) : w'.cell? ⟨b, o, none⟩ = some u := by
  have hb : b < w.heap.size := by
    rcases Nat.lt_or_ge b w.heap.size with h1 | h1
    · exact h1
    · unfold World.cell? at h
      rw [Array.getElem?_eq_none h1] at h
      simp at h
  unfold World.cell? at h ⊢
  rw [hk hb]
  exact h

theorem cell_lt {w : World} {b o : Nat} {u : Value} (h : w.cell? ⟨b, o, none⟩ = some u) : b < w.heap.size := by
  rcases Nat.lt_or_ge b w.heap.size with h1 | h1
  · exact h1
  · unfold World.cell? at h
    rw [Array.getElem?_eq_none h1] at h
    simp at h

theorem flat3_head {ps : List V3} (h : ps ≠ []) : ∃ u, (flat3 ps)[0]? = some u := by
  cases ps with
  | nil => exact absurd rfl h
  | cons p ps => exact ⟨_, rfl⟩

/-- Where the blocks of S are as they were, the tree reads as before. -/
theorem TV.keep {w w' : World} {S : Nat → Prop} {v : Value} {t : T} (h : TV w S v t) (hk : ∀ b, S b → b < w.heap.size → w'.heap[b]? = w.heap[b]?) : TV w' S v t := by
  induction h with
  | mk k n a cap ts ps hl hc hm hr hS he ih =>
    refine .mk k n a cap ts ps hl hc hm ?_ hS ih
    intro j u hj
    obtain ⟨b, o, ha, hc⟩ := hr j u hj
    exact ⟨b, o, ha, cell_keep hc (hk b (hS b o (by rintro rfl; simp [flat3] at hj) ha))⟩

theorem TV.mono {w : World} {S S' : Nat → Prop} {v : Value} {t : T} (h : TV w S v t) (hs : ∀ b, S b → b < w.heap.size → S' b) : TV w S' v t := by
  induction h with
  | mk k n a cap ts ps hl hc hm hr hS he ih =>
    refine .mk k n a cap ts ps hl hc hm hr (fun b o hp ha => ?_) ih
    obtain ⟨u, hu⟩ := flat3_head hp
    obtain ⟨b', o', ha', hc'⟩ := hr 0 u hu
    rw [ha] at ha'
    simp at ha'
    obtain ⟨rfl, rfl⟩ := ha'
    exact hs b (hS b o hp ha) (cell_lt hc')

/-- A store into a block of which S does not hold. -/
theorem TV.low {w : World} {S : Nat → Prop} {v : Value} {t : T} (h : TV w S v t) {a : Addr} (ha : ∀ b, S b → b ≠ a.block) (u : Value) : TV (w.setCell a u) S v t :=
  h.keep fun b hb _ => Below.heap_setCell _ _ _ _ (ha b hb)

theorem TV.leaf (w : World) (S : Nat → Prop) (k n : Int) : TV w S (.agg #[.int .i64 k, .int .i64 n, .slice none 0 0]) (.mk k n []) :=
  .mk k n none 0 [] [] rfl (Nat.le_refl _) (by unfold maxLen; omega) (Row.nil _ _) (by intro b o h; exact absurd rfl h) (by intro i p t h; simp at h)

theorem TV.any {w : World} {S : Nat → Prop} {v : Value} {t : T} (h : TV w S v t) : TV w Any v t := h.mono fun _ _ _ => trivial

theorem TV.ext {w w' : World} {S : Nat → Prop} {v : Value} {t : T} (h : TV w S v t) (hb : Below w.heap.size w w') : TV w' S v t := h.keep fun b _ hlt => hb.block b hlt

/-- Trees, one beside the other. -/
def TVs (w : World) (S : Nat → Prop) (ps : List V3) (ts : List T) : Prop := ps.length = ts.length ∧ ∀ (i : Nat) (p : V3) (t : T), ps[i]? = some p → ts[i]? = some t → TV w S (agg3 p) t

theorem TVs.ext {w w' : World} {S : Nat → Prop} {ps : List V3} {ts : List T} (h : TVs w S ps ts) (hb : Below w.heap.size w w') : TVs w' S ps ts := ⟨h.1, fun i p t hp ht => (h.2 i p t hp ht).ext hb⟩
theorem TVs.keep {w w' : World} {S : Nat → Prop} {ps : List V3} {ts : List T} (h : TVs w S ps ts) (hk : ∀ b, S b → b < w.heap.size → w'.heap[b]? = w.heap[b]?) : TVs w' S ps ts := ⟨h.1, fun i p t hp ht => (h.2 i p t hp ht).keep hk⟩
theorem TVs.mono {w : World} {S S' : Nat → Prop} {ps : List V3} {ts : List T} (h : TVs w S ps ts) (hs : ∀ b, S b → b < w.heap.size → S' b) : TVs w S' ps ts := ⟨h.1, fun i p t hp ht => (h.2 i p t hp ht).mono hs⟩
theorem TVs.nil (w : World) (S : Nat → Prop) : TVs w S [] [] := ⟨rfl, by intro i p t h; simp at h⟩
theorem TVs.snoc {w : World} {S : Nat → Prop} {ps : List V3} {ts : List T} {p : V3} {t : T} (h : TVs w S ps ts) (ht : TV w S (agg3 p) t) : TVs w S (ps ++ [p]) (ts ++ [t]) := by
  refine ⟨by simp [h.1], fun i q u hq hu => ?_⟩
  by_cases hi : i < ps.length
  · rw [List.getElem?_append_left hi] at hq
    rw [List.getElem?_append_left (by rw [← h.1]; exact hi)] at hu
    exact h.2 i q u hq hu
  · have hip : i = ps.length := by
      have := (List.getElem?_eq_some_iff.1 hq).1
      simp at this
      omega
    subst hip
    rw [List.getElem?_append_right (by omega)] at hq
    rw [List.getElem?_append_right (by rw [h.1]; omega), h.1] at hu
    simp at hq hu
    subst hq
    subst hu
    exact ht

/-- A tree's three cells. -/
theorem TV.agg {w : World} {S : Nat → Prop} {v : Value} {t : T} (h : TV w S v t) : ∃ p : V3, v = agg3 p := by
  cases h with
  | mk k n a cap ts ps hl hc hm hr he => exact ⟨(_, _, _), rfl⟩

/-- The elements that a tree of the call's own has so far. -/
structure Kids (w : World) (B : Nat) (e : TypeId) (sv : Value) (qs : List V3) (ts : List T) : Prop where
  own : w.ownsRow B e 3 sv ts.length (flat3 qs)
  kid : TVs w (fun b => B ≤ b ∧ sv.ownBlock ≠ some b) qs ts

theorem Kids.nil (w : World) (B : Nat) (e : TypeId) : Kids w B e (.slice none 0 0) [] [] := ⟨World.ownsRow_nil _ _ _ _, TVs.nil _ _⟩

theorem Kids.ext {w w' : World} {B : Nat} {e : TypeId} {sv : Value} {qs : List V3} {ts : List T} (h : Kids w B e sv qs ts) (hb : Below w.heap.size w w') : Kids w' B e sv qs ts := ⟨own_ext h.own hb, h.kid.ext hb⟩

/-- A store below the base does not touch them. -/
theorem Kids.low {w : World} {B : Nat} {e : TypeId} {sv : Value} {qs : List V3} {ts : List T} (h : Kids w B e sv qs ts) {a : Addr} (ha : a.block < B) (u : Value) : Kids (w.setCell a u) B e sv qs ts := by
  have hk : ∀ b, B ≤ b → (w.setCell a u).heap[b]? = w.heap[b]? := fun b hb => Below.heap_setCell _ _ _ _ (by omega)
  refine ⟨⟨h.own.1, ?_⟩, h.kid.keep fun b hb _ => hk b hb.1⟩
  rcases h.own.2 with hn | ⟨g, cap, cur, rfl, hg, hh, r⟩
  · exact Or.inl hn
  · exact Or.inr ⟨g, cap, cur, rfl, hg, (hk g hg).trans hh, r⟩

/-- One element more. -/
theorem Kids.snoc {w w2 w3 : World} {B : Nat} {e : TypeId} {sv sv' : Value} {qs : List V3} {ts : List T} {q : V3} {t : T} (h : Kids w B e sv qs ts) (hB : B ≤ w.heap.size) (hb : Below w.heap.size w w2)
    (ht : TV w2 (fun b => w.heap.size ≤ b) (agg3 q) t)
    (g1 : w3.ownsRow B e 3 sv' (ts.length + 1) (flat3 qs ++ [q.1, q.2.1, q.2.2])) (g3 : w2.grownBy w3 sv.ownBlock) (g4 : ∀ k, sv'.ownBlock = some k → sv.ownBlock = some k ∨ w2.heap.size ≤ k) : Kids w3 B e sv' (qs ++ [q]) (ts ++ [t]) := by
  have hlt : ∀ k, sv.ownBlock = some k → k < w.heap.size := by
    intro k hk
    exact (h.own.lt k hk).2
  refine ⟨by rw [flat3_append]; simpa [flat3] using g1, ?_⟩
  have k1 : TVs w2 (fun b => B ≤ b ∧ sv.ownBlock ≠ some b) (qs ++ [q]) (ts ++ [t]) := by
    refine (h.kid.ext hb).snoc (ht.mono fun b hb1 _ => ⟨by omega, fun e1 => ?_⟩)
    have := hlt b e1
    omega
  have k2 : TVs w3 (fun b => (B ≤ b ∧ sv.ownBlock ≠ some b) ∧ b < w2.heap.size) (qs ++ [q]) (ts ++ [t]) := by
    refine (k1.mono (S' := fun b => (B ≤ b ∧ sv.ownBlock ≠ some b) ∧ b < w2.heap.size) fun b hb1 hlt => ⟨hb1, hlt⟩).keep fun b hb1 hlt => ?_
    exact g3.block b hlt fun e1 => hb1.1.2 e1.symm
  refine k2.mono fun b hb1 _ => ⟨hb1.1.1, fun e1 => ?_⟩
  rcases g4 b e1 with h1 | h1
  · exact hb1.1.2 h1
  · omega

/-- What the loop over a tree's elements keeps: the tree that is made so far lies in block O, the result's cell in block R. -/
def TLoop (w : World) (B O O1 R : Nat) (ty : TypeId) (kv nv : Value) (f : T → T) (ts : List T) (len : Nat) (i : Value) (wr : World) : Prop :=
  ∃ (k : Nat) (sv : Value) (qs : List V3), k ≤ len ∧ i = .int .i64 k ∧ wr.heap[O]? = some (.cells #[kv, nv, sv] ty (0, 0)) ∧ Kids wr O1 ty sv qs ((ts.take k).map f) ∧ Below B w wr ∧
    wr.heap[R]? = some (.cells #[.int .i64 0, .int .i64 0, .slice none 0 0] ty (0, 0)) ∧ O1 ≤ wr.heap.size

theorem own_ge {w : World} {B : Nat} {e : TypeId} {size n : Nat} {v : Value} {xs : List Value} (h : w.ownsRow B e size v n xs) {b : Nat} (hb : v.ownBlock = some b) : B ≤ b := (h.lt b hb).1

/-- The tree that they make. -/
theorem Kids.tree {w : World} {B : Nat} {e : TypeId} {sv : Value} {qs : List V3} {ts : List T} (k n : Int) (h : Kids w B e sv qs ts) : TV w (fun b => B ≤ b) (.agg #[.int .i64 k, .int .i64 n, sv]) (.mk k n ts) := by
  obtain ⟨a, cap, rfl, h1, h2, h3⟩ := own_slice h.own
  refine .mk k n a cap ts qs h.kid.1 h1 h2 h3 (fun b o _ ha => ?_) fun i p t hp ht => (h.kid.2 i p t hp ht).mono fun b hb _ => hb.1
  subst ha
  have hh := h.own
  rcases hh.2 with ⟨hv, _⟩ | ⟨g, _, _, hv, hg, _, _⟩
  · simp at hv
  · simp at hv
    omega

section
variable {P : Program}

/-- An append of one element of whatever size, at the operation. -/
theorem wp_app {o : Oper} {a : Act} {K : Act → World → Prop} {Q : Exit → Act → World → Prop} (W : World) (s x : Operand) (t : TypeId)
    (ho : o.op = .call { callee := .builtin .append, args := #[s, x], argTypes := #[t, t] })
    (base : Nat) (e : TypeId) (z : Value) (size bytes : Nat) (ht : P.underlying t = some (.slice e)) (hinfo : (P.info? e).map (fun i => (i.zero, i.size, i.bytes)) = some (some z, size, bytes)) (hzs : z.cells.size = size) (hsz : 0 < size)
    (v : Value) (n : Nat) (xs : List Value) (news : List Value) (S : Nat) (hs : a.eval s = v) (hx : a.eval x = .slice (some ⟨S, 0, none⟩) 1 1) (hS : S = W.heap.size)
    (hown : W.ownsRow base e size v n xs) (hl : news.length = size) (h1 : ∀ u ∈ news, u.oneCell' = true)
    (h63 : n + 1 ≤ maxLen) (hbytes : (n + 1) * bytes ≤ 140737488355328) (hbase : base ≤ W.heap.size)
    (h : ∀ v' w', w'.ownsRow base e size v' (n + 1) (xs ++ news) → w'.ownsRow base e size v n xs → W.grownBy w' v.ownBlock → (∀ k, v'.ownBlock = some k → v.ownBlock = some k ∨ W.heap.size ≤ k) → K (a.put o.dst v') w') :
    o.wp P a (W.alloc (.cells news.toArray e)) K Q := by
  subst hS
  obtain ⟨i, hi, hz, hsize, hby⟩ := info_parts hinfo
  obtain ⟨v', w', hr, g⟩ := run_append_grew (P := P) (W.alloc (.cells news.toArray e)) base t o.type e i z size bytes ht hi hz hsize hby hzs hsz v n xs (hown.alloc _) ⟨W.heap.size, 0, none⟩ 1 1 news (by decide) (by omega)
    (by simpa using World.news_of_block (w := W.alloc (.cells news.toArray e)) (heap_alloc_new W _)) h1 h63 hbytes (by simp; omega)
  unfold Oper.wp execOp
  simp only [ho, resolve, invoke, builtin, Sem.run_bind, Sem.run_pure, Result.andThen_ok, List.map_toArray, List.map_cons, List.map_nil, hs, hx, hr]
  refine h v' w' g.own g.old ?_ ?_
  · exact ⟨g.by_.os, g.by_.tape, g.by_.output, by have := g.by_.size; simp at this; omega, fun k hk hne => by
      rw [g.by_.block k (by simp; omega) hne]; exact Below.heap_alloc W _ k hk⟩
  · intro k hk
    rcases g.blk k hk with h | h
    · exact Or.inl h
    · right; subst h; simp

/-- The same in a list of operations. -/
theorem wpList_app {ops : Array Oper} {rest : List Oper} {o : Oper} {a : Act} {Q : Exit → Act → World → Prop} (W : World) (hgd : o.guard = none) (s x : Operand) (t : TypeId)
    (ho : o.op = .call { callee := .builtin .append, args := #[s, x], argTypes := #[t, t] })
    (base : Nat) (e : TypeId) (z : Value) (size bytes : Nat) (ht : P.underlying t = some (.slice e)) (hinfo : (P.info? e).map (fun i => (i.zero, i.size, i.bytes)) = some (some z, size, bytes)) (hzs : z.cells.size = size) (hsz : 0 < size)
    (v : Value) (n : Nat) (xs : List Value) (news : List Value) (S : Nat) (hs : a.eval s = v) (hx : a.eval x = .slice (some ⟨S, 0, none⟩) 1 1) (hS : S = W.heap.size)
    (hown : W.ownsRow base e size v n xs) (hl : news.length = size) (h1 : ∀ u ∈ news, u.oneCell' = true)
    (h63 : n + 1 ≤ maxLen) (hbytes : (n + 1) * bytes ≤ 140737488355328) (hbase : base ≤ W.heap.size)
    (h : ∀ v' w', w'.ownsRow base e size v' (n + 1) (xs ++ news) → w'.ownsRow base e size v n xs → W.grownBy w' v.ownBlock → (∀ k, v'.ownBlock = some k → v.ownBlock = some k ∨ W.heap.size ≤ k) → wpList P ops Q rest (a.put o.dst v') w') :
    wpList P ops Q (o :: rest) a (W.alloc (.cells news.toArray e)) :=
  wpList_plain hgd fun _ hK => wp_app W s x t ho base e z size bytes ht hinfo hzs hsz v n xs news S hs hx hS hown hl h1 h63 hbytes hbase fun v' w' h2 h3 h4 h5 => hK _ _ (h v' w' h2 h3 h4 h5)

/-- The same at a step of a region that draws its order. -/
theorem step_app {ops : Array Oper} {o : Oper} {a : Act} {K : Act → World → Prop} {Q : Exit → Act → World → Prop} {E : Prop} (W : World) (hgd : o.guard = none) (s x : Operand) (t : TypeId)
    (ho : o.op = .call { callee := .builtin .append, args := #[s, x], argTypes := #[t, t] })
    (base : Nat) (e : TypeId) (z : Value) (size bytes : Nat) (ht : P.underlying t = some (.slice e)) (hinfo : (P.info? e).map (fun i => (i.zero, i.size, i.bytes)) = some (some z, size, bytes)) (hzs : z.cells.size = size) (hsz : 0 < size)
    (v : Value) (n : Nat) (xs : List Value) (news : List Value) (S : Nat) (hs : a.eval s = v) (hx : a.eval x = .slice (some ⟨S, 0, none⟩) 1 1) (hS : S = W.heap.size)
    (hown : W.ownsRow base e size v n xs) (hl : news.length = size) (h1 : ∀ u ∈ news, u.oneCell' = true)
    (h63 : n + 1 ≤ maxLen) (hbytes : (n + 1) * bytes ≤ 140737488355328) (hbase : base ≤ W.heap.size)
    (h : ∀ v' w', w'.ownsRow base e size v' (n + 1) (xs ++ news) → w'.ownsRow base e size v n xs → W.grownBy w' v.ownBlock → (∀ k, v'.ownBlock = some k → v.ownBlock = some k ∨ W.heap.size ≤ k) → K (a.put o.dst v') w') :
    if Region.wanted o (yielded ops a.tmps) = true then Oper.wp P o a (W.alloc (.cells news.toArray e)) K Q else E := by
  have hw : Region.wanted o (yielded ops a.tmps) = true := by simp [Region.wanted, hgd]
  rw [if_pos hw]
  exact wp_app W s x t ho base e z size bytes ht hinfo hzs hsz v n xs news S hs hx hS hown hl h1 h63 hbytes hbase h
end

/-- A tree's value, taken apart. -/
theorem TV.form {w : World} {S : Nat → Prop} {v : Value} {t : T} (h : TV w S v t) : ∃ (k n : Int) (a : Option Addr) (cap : Nat) (ts : List T) (ps : List V3), v = .agg #[.int .i64 k, .int .i64 n, .slice a ts.length cap] ∧ t = .mk k n ts ∧
    ts.length ≤ cap ∧ cap ≤ maxLen ∧ Row w a (flat3 ps) ∧ TVs w S ps ts := by
  cases h with
  | mk k n a cap ts ps hl hc hm hr hS he => exact ⟨k, n, a, cap, ts, ps, rfl, rfl, hc, hm, hr, hl, he⟩

theorem TV.form3 {w : World} {S : Nat → Prop} {p : V3} {t : T} (h : TV w S (agg3 p) t) : ∃ (k n : Int) (a : Option Addr) (cap : Nat) (ts : List T) (ps : List V3), p = (.int .i64 k, .int .i64 n, .slice a ts.length cap) ∧ t = .mk k n ts ∧
    ts.length ≤ cap ∧ cap ≤ maxLen ∧ Row w a (flat3 ps) ∧ TVs w S ps ts := by
  obtain ⟨k, n, a, cap, ts, ps, h1, h2⟩ := h.form
  refine ⟨k, n, a, cap, ts, ps, ?_, h2⟩
  simp [agg3] at h1
  obtain ⟨e1, e2, e3⟩ := h1
  rw [← e1, ← e2, ← e3]

theorem TV.one {w : World} {S : Nat → Prop} {p : V3} {t : T} (h : TV w S (agg3 p) t) : ∀ u ∈ [p.1, p.2.1, p.2.2], u.oneCell' = true := by
  obtain ⟨k, n, a, cap, ts, ps, rfl, _⟩ := h.form3
  intro u hu
  simp at hu
  rcases hu with rfl | rfl | rfl <;> rfl

theorem below_ext {w w' : World} {k : Nat} {o : Obj} (hb : Below w.heap.size w w') (h : w.heap[k]? = some o) : w'.heap[k]? = some o := by
  rw [hb.block k (Array.getElem?_eq_some_iff.1 h).1]; exact h

theorem low_grown {w w' : World} {base k : Nat} {e : TypeId} {size : Nat} {v : Value} {n : Nat} {xs : List Value} {o : Obj} (ho : w.ownsRow base e size v n xs) (hg : w.grownBy w' v.ownBlock) (hk : k < base)
    (h : w.heap[k]? = some o) : w'.heap[k]? = some o := by
  rw [hg.block k (Array.getElem?_eq_some_iff.1 h).1 fun e1 => ?_]
  · exact h
  · have := (ho.lt k e1.symm).1
    omega

theorem below_low {w w' : World} {base : Nat} {e : TypeId} {size : Nat} {v : Value} {n : Nat} {xs : List Value} (ho : w.ownsRow base e size v n xs) (hg : w.grownBy w' v.ownBlock) (hs : base ≤ w.heap.size) : Below base w w' :=
  below_grown (Below.refl base w) ho (Nat.le_refl _) hs hg

theorem Try.info45 : (Try.prog.info? 45).map (fun i => (i.zero, i.size, i.bytes)) = some (some (.agg #[.int .i64 0, .int .i64 0, .slice none 0 0]), 3, 40) := by kernel_rfl
theorem Try.info55 : (Try.prog.info? 55).map (fun i => (i.zero, i.size, i.bytes)) = some (some (.agg #[.int .i64 0, .int .i64 0, .slice none 0 0]), 3, 40) := by kernel_rfl

end Go.Proofs.Ytnaedpfaeioolaa
