/- Declarations as plain data: what stands in them, by value, and how a list of them lies in memory. -/
import Derived.Test.YtnaedpfaeioolaaVb
namespace Go.Proofs.Ytnaedpfaeioolaa
open Go.RowKit
set_option linter.unusedVariables false

def dNone : D := ⟨false, .mk 0 0 []⟩
def alOf (ds : List D) (n : Nat) : Bool := (ds.getD n dNone).alias
def ofOf (ds : List D) (n : Nat) : T := (ds.getD n dNone).of

/-- The names of declarations that stand by value in a type, in their order, with what aliases stand for in their place. -/
def flatF (ds : List D) : Nat → T → List Nat
  | f, .mk k n es =>
    if k = 1 then
      if alOf ds n.toNat = true then
        match f with
        | 0 => []
        | g + 1 => flatF ds g (ofOf ds n.toNat)
      else [n.toNat]
    else if 3 ≤ k ∧ k ≤ 6 then es.flatMap (flatF ds f) else []
termination_by f t => (f, SizeOf.sizeOf t)

/-- What stands for aliases in their place. -/
def replF (ds : List D) : Nat → T → T
  | f, .mk k n es =>
    if k = 1 ∧ alOf ds n.toNat = true then
      match f with
      | 0 => .mk 0 0 []
      | g + 1 => replF ds g (ofOf ds n.toNat)
    else if k = 2 then .mk 2 0 []
    else .mk k n (es.map (replF ds f))
termination_by f t => (f, SizeOf.sizeOf t)

/-- Aliases that stand in a type have numbers from m on. -/
inductive AT (ds : List D) (m : Nat) : T → Prop
  | mk (k n : Int) (es : List T) (ha : k = 1 → alOf ds n.toNat = true → m ≤ n.toNat) (he : ∀ e ∈ es, AT ds m e) : AT ds m (.mk k n es)

theorem AT.mono {ds : List D} {m m' : Nat} (hm : m' ≤ m) {t : T} (h : AT ds m t) : AT ds m' t := by
  induction h with
  | mk k n es ha he ih => exact .mk k n es (fun h1 h2 => Nat.le_trans hm (ha h1 h2)) ih

theorem AT.zero (ds : List D) (t : T) : AT ds 0 t := by
  induction t using T.ind with
  | _ k n es ih => exact .mk k n es (fun _ _ => Nat.zero_le _) ih

/-- The declarations as the statements speak of them. -/
structure DOk (ds : List D) : Prop where
  ok : ∀ d ∈ ds, Ok ds.length d.of
  al : ∀ (i : Nat) (d : D), ds[i]? = some d → d.alias = true → AT ds (i + 1) d.of

theorem getD_of {ds : List D} {n : Nat} (h : n < ds.length) : ds.getD n dNone = ds[n] := by simp [List.getD, h]
theorem DOk.of {ds : List D} (h : DOk ds) {n : Nat} (hn : n < ds.length) : Ok ds.length (ofOf ds n) := by
  unfold ofOf
  rw [getD_of hn]
  exact h.ok _ (List.getElem_mem hn)
theorem DOk.at_ {ds : List D} (h : DOk ds) {n : Nat} (hn : n < ds.length) (ha : alOf ds n = true) : AT ds (n + 1) (ofOf ds n) := by
  unfold ofOf
  unfold alOf at ha
  rw [getD_of hn] at ha ⊢
  exact h.al n _ (List.getElem?_eq_getElem hn) ha

abbrev V4 := Value × V3
def flat4 : List V4 → List Value
  | [] => []
  | p :: ps => p.1 :: p.2.1 :: p.2.2.1 :: p.2.2.2 :: flat4 ps

theorem flat4_append (a b : List V4) : flat4 (a ++ b) = flat4 a ++ flat4 b := by
  induction a with
  | nil => rfl
  | cons p a ih => simp [flat4, ih]
theorem flat4_len (a : List V4) : (flat4 a).length = a.length * 4 := by
  induction a with
  | nil => rfl
  | cons p a ih => simp [flat4, ih]; omega
theorem flat4_get : ∀ (ps : List V4) (i : Nat) (p : V4), ps[i]? = some p → (flat4 ps)[i * 4]? = some p.1 ∧ (flat4 ps)[i * 4 + 1]? = some p.2.1 ∧ (flat4 ps)[i * 4 + 2]? = some p.2.2.1 ∧ (flat4 ps)[i * 4 + 3]? = some p.2.2.2
  | [], i, p, h => by simp at h
  | q :: ps, 0, p, h => by simp at h; subst h; simp [flat4]
  | q :: ps, i + 1, p, h => by
    have ih := flat4_get ps i p (by simpa using h)
    rw [show (i + 1) * 4 = i * 4 + 4 from by omega]
    simpa [flat4] using ih

theorem row4 {w : World} {a : Option Addr} {ps : List V4} (h : Row w a (flat4 ps)) {i : Nat} {p : V4} (hi : ps[i]? = some p) :
    ∃ b o, a = some ⟨b, o, none⟩ ∧ w.cell? ⟨b, o + i * 4, none⟩ = some p.1 ∧ w.cell? ⟨b, o + i * 4 + 1, none⟩ = some p.2.1 ∧ w.cell? ⟨b, o + i * 4 + 2, none⟩ = some p.2.2.1 ∧ w.cell? ⟨b, o + i * 4 + 3, none⟩ = some p.2.2.2 := by
  obtain ⟨h0, h1, h2, h3⟩ := flat4_get ps i p hi
  obtain ⟨b, o, rfl, c0⟩ := h _ _ h0
  obtain ⟨_, _, e1, c1⟩ := h _ _ h1
  obtain ⟨_, _, e2, c2⟩ := h _ _ h2
  obtain ⟨_, _, e3, c3⟩ := h _ _ h3
  simp at e1 e2 e3
  obtain ⟨rfl, rfl⟩ := e1
  obtain ⟨rfl, rfl⟩ := e2
  obtain ⟨rfl, rfl⟩ := e3
  exact ⟨_, _, rfl, c0, by rw [Nat.add_assoc]; exact c1, by rw [Nat.add_assoc]; exact c2, by rw [Nat.add_assoc]; exact c3⟩

/-- Declarations, one beside the other; their trees' rows lie in blocks of which S holds. -/
def DVs (w : World) (S : Nat → Prop) (ps : List V4) (ds : List D) : Prop :=
  ps.length = ds.length ∧ ∀ (i : Nat) (p : V4) (d : D), ps[i]? = some p → ds[i]? = some d → p.1 = .bool d.alias ∧ TV w S (agg3 p.2) d.of

theorem DVs.ext {w w' : World} {S : Nat → Prop} {ps : List V4} {ds : List D} (h : DVs w S ps ds) (hb : Below w.heap.size w w') : DVs w' S ps ds := ⟨h.1, fun i p d hp hd => ⟨(h.2 i p d hp hd).1, (h.2 i p d hp hd).2.ext hb⟩⟩
theorem DVs.keep {w w' : World} {S : Nat → Prop} {ps : List V4} {ds : List D} (h : DVs w S ps ds) (hk : ∀ b, S b → b < w.heap.size → w'.heap[b]? = w.heap[b]?) : DVs w' S ps ds := ⟨h.1, fun i p d hp hd => ⟨(h.2 i p d hp hd).1, (h.2 i p d hp hd).2.keep hk⟩⟩
theorem DVs.mono {w : World} {S S' : Nat → Prop} {ps : List V4} {ds : List D} (h : DVs w S ps ds) (hs : ∀ b, S b → b < w.heap.size → S' b) : DVs w S' ps ds := ⟨h.1, fun i p d hp hd => ⟨(h.2 i p d hp hd).1, (h.2 i p d hp hd).2.mono hs⟩⟩
theorem DVs.nil (w : World) (S : Nat → Prop) : DVs w S [] [] := ⟨rfl, by intro i t p h; simp at h⟩
theorem DVs.snoc {w : World} {S : Nat → Prop} {ps : List V4} {ds : List D} {p : V4} {d : D} (h : DVs w S ps ds) (h1 : p.1 = .bool d.alias) (ht : TV w S (agg3 p.2) d.of) : DVs w S (ps ++ [p]) (ds ++ [d]) := by
  refine ⟨by simp [h.1], fun i q u hq hu => ?_⟩
  by_cases hi : i < ps.length
  · rw [List.getElem?_append_left hi] at hq
    rw [List.getElem?_append_left (by rw [← h.1]; exact hi)] at hu
    exact h.2 i q u hq hu
  · have hip : i = ps.length := by
      have := (List.getElem?_eq_some_iff.1 hq).1
      simp at this
      omega
    subst hip
    rw [List.getElem?_append_right (by omega)] at hq
    rw [List.getElem?_append_right (by rw [h.1]; omega), h.1] at hu
    simp at hq hu
    subst hq
    subst hu
    exact ⟨h1, ht⟩
theorem DVs.set {w : World} {S : Nat → Prop} {ps : List V4} {ds : List D} (h : DVs w S ps ds) (j : Nat) {p : V4} {d : D} (h1 : p.1 = .bool d.alias) (ht : TV w S (agg3 p.2) d.of) : DVs w S (ps.set j p) (ds.set j d) := by
  refine ⟨by simp [h.1], fun i q u hq hu => ?_⟩
  rw [List.getElem?_set] at hq hu
  by_cases hj : j = i
  · subst hj
    simp only [if_true] at hq hu
    split at hq
    · split at hu
      · simp at hq hu; subst hq; subst hu; exact ⟨h1, ht⟩
      · cases hu
    · cases hq
  · rw [if_neg hj] at hq hu
    exact h.2 i q u hq hu

/-- A slice of declarations that reads as a list. -/
def DV (w : World) (v : Value) (ds : List D) : Prop :=
  ∃ (a : Option Addr) (cap : Nat) (ps : List V4), v = .slice a ds.length cap ∧ ds.length ≤ cap ∧ cap ≤ maxLen ∧ Row w a (flat4 ps) ∧ DVs w Any ps ds

theorem DV.ext {w w' : World} {v : Value} {ds : List D} (h : DV w v ds) (hb : Below w.heap.size w w') : DV w' v ds := by
  obtain ⟨a, cap, ps, h1, h2, h3, h4, h5⟩ := h
  exact ⟨a, cap, ps, h1, h2, h3, h4.ext hb, h5.ext hb⟩

/-- One declaration's cells. -/
theorem DV.at {w : World} {a : Option Addr} {n cap : Nat} {ds : List D} (h : DV w (.slice a n cap) ds) {i : Nat} (hi : i < ds.length) :
    ∃ (b o : Nat) (k m : Int) (x : Option Addr) (y : Nat × Nat), a = some ⟨b, o, none⟩ ∧ w.cell? ⟨b, o + i * 4, none⟩ = some (.bool (alOf ds i)) ∧ w.cell? ⟨b, o + i * 4 + 1, none⟩ = some (.int .i64 k) ∧ w.cell? ⟨b, o + i * 4 + 2, none⟩ = some (.int .i64 m) ∧
      w.cell? ⟨b, o + i * 4 + 3, none⟩ = some (.slice x y.1 y.2) ∧ TV w Any (.agg #[.int .i64 k, .int .i64 m, .slice x y.1 y.2]) (ofOf ds i) := by
  obtain ⟨a', cap', ps, h1, h2, h3, h4, h5⟩ := h
  simp at h1
  obtain ⟨rfl, rfl, rfl⟩ := h1
  have hip : i < ps.length := by rw [h5.1]; exact hi
  have hp : ps[i]? = some ps[i] := List.getElem?_eq_getElem hip
  obtain ⟨b, o, ha, c0, c1, c2, c3⟩ := row4 h4 hp
  obtain ⟨e0, ht⟩ := h5.2 i _ _ hp (List.getElem?_eq_getElem hi)
  obtain ⟨k, m, x, c, ts, qs, e1, e2, _⟩ := ht.form3
  rw [e0] at c0
  rw [e1] at c1 c2 c3 ht
  refine ⟨b, o, k, m, x, (ts.length, c), ha, ?_, c1, c2, c3, ?_⟩
  · unfold alOf; rw [getD_of hi]; exact c0
  · unfold ofOf; rw [getD_of hi]; exact ht

/-- The declarations that a list of the call's own has so far. -/
structure Kids4 (w : World) (B : Nat) (e : TypeId) (sv : Value) (qs : List V4) (ds : List D) : Prop where
  own : w.ownsRow B e 4 sv ds.length (flat4 qs)
  kid : DVs w (fun b => sv.ownBlock ≠ some b) qs ds

theorem Kids4.nil (w : World) (B : Nat) (e : TypeId) : Kids4 w B e (.slice none 0 0) [] [] := ⟨World.ownsRow_nil _ _ _ _, DVs.nil _ _⟩
theorem Kids4.ext {w w' : World} {B : Nat} {e : TypeId} {sv : Value} {qs : List V4} {ds : List D} (h : Kids4 w B e sv qs ds) (hb : Below w.heap.size w w') : Kids4 w' B e sv qs ds := ⟨own_ext h.own hb, h.kid.ext hb⟩

/-- One declaration more. -/
theorem Kids4.snoc {w2 w3 : World} {B : Nat} {e : TypeId} {sv sv' : Value} {qs : List V4} {ds : List D} {q : V4} {d : D} (h : Kids4 w2 B e sv qs ds)
    (h1 : q.1 = .bool d.alias) (ht : TV w2 (fun b => sv.ownBlock ≠ some b) (agg3 q.2) d.of)
    (g1 : w3.ownsRow B e 4 sv' (ds.length + 1) (flat4 qs ++ [q.1, q.2.1, q.2.2.1, q.2.2.2])) (g3 : w2.grownBy w3 sv.ownBlock) (g4 : ∀ k, sv'.ownBlock = some k → sv.ownBlock = some k ∨ w2.heap.size ≤ k) : Kids4 w3 B e sv' (qs ++ [q]) (ds ++ [d]) := by
  refine ⟨by rw [flat4_append]; simpa [flat4] using g1, ?_⟩
  have k1 : DVs w2 (fun b => sv.ownBlock ≠ some b) (qs ++ [q]) (ds ++ [d]) := h.kid.snoc h1 ht
  have k2 : DVs w3 (fun b => sv.ownBlock ≠ some b ∧ b < w2.heap.size) (qs ++ [q]) (ds ++ [d]) := by
    refine (k1.mono (S' := fun b => sv.ownBlock ≠ some b ∧ b < w2.heap.size) fun b hb1 hlt => ⟨hb1, hlt⟩).keep fun b hb1 hlt => ?_
    exact g3.block b hlt fun e1 => hb1.1 e1.symm
  refine k2.mono fun b hb1 _ => fun e1 => ?_
  rcases g4 b e1 with h1 | h1
  · exact hb1.1 h1
  · omega

/-- A tree that the call did not have when its list began. -/
theorem TV.fresh {w w2 : World} {B : Nat} {e : TypeId} {size n : Nat} {sv : Value} {xs : List Value} {v : Value} {t : T} (h : TV w2 (fun b => w.heap.size ≤ b) v t) (ho : w.ownsRow B e size sv n xs) : TV w2 (fun b => sv.ownBlock ≠ some b) v t := by
  refine h.mono fun b hb _ e1 => ?_
  have := (ho.lt b e1).2
  omega
/-- A tree that was there before the list's base. -/
theorem TV.old {w0 w2 : World} {B : Nat} {e : TypeId} {size n : Nat} {sv : Value} {xs : List Value} {v : Value} {t : T} {S : Nat → Prop} (h : TV w0 S v t) (hb : Below w0.heap.size w0 w2) (ho : w2.ownsRow B e size sv n xs) (hB : w0.heap.size ≤ B) : TV w2 (fun b => sv.ownBlock ≠ some b) v t := by
  refine ((h.mono (S' := fun b => b < w0.heap.size) fun b _ hlt => hlt).ext hb).mono fun b hb1 _ e1 => ?_
  have := (ho.lt b e1).1
  omega

theorem Kids4.dv {w : World} {B : Nat} {e : TypeId} {sv : Value} {qs : List V4} {ds : List D} (h : Kids4 w B e sv qs ds) : DV w sv ds := by
  obtain ⟨a, cap, rfl, h1, h2, h3⟩ := own_slice h.own
  exact ⟨a, cap, qs, rfl, h1, h2, h3, h.kid.mono fun _ _ _ => trivial⟩

theorem Try.info47 : (Try.prog.info? 47).map (fun i => (i.zero, i.size, i.bytes)) = some (some (.agg #[.bool false, .int .i64 0, .int .i64 0, .slice none 0 0]), 4, 48) := by kernel_rfl
theorem Try.info58 : (Try.prog.info? 58).map (fun i => (i.zero, i.size, i.bytes)) = some (some (.agg #[.bool false, .int .i64 0, .int .i64 0, .slice none 0 0]), 4, 48) := by kernel_rfl

end Go.Proofs.Ytnaedpfaeioolaa
