/- What a call leaves as it was, said by the types of the blocks: every block of cells whose element type is not listed, and every map but those listed, is as it was. -/
import Derived.Test.YtnaedpfaeioolaaMem
namespace Go.Proofs.Ytnaedpfaeioolaa
open Go.RowKit
set_option linter.unusedVariables false

structure TF (tys : List TypeId) (ms : List Nat) (w w' : World) : Prop where
  os : w'.os = w.os
  tape : w'.tape = w.tape
  output : w'.output = w.output
  size : w.heap.size ≤ w'.heap.size
  cells : ∀ (k : Nat) (c : Array Value) (e : TypeId) (fr : Nat × Nat), w.heap[k]? = some (.cells c e fr) → e ∉ tys → w'.heap[k]? = w.heap[k]?
  typ : ∀ (k : Nat) (c : Array Value) (e : TypeId) (fr : Nat × Nat), w.heap[k]? = some (.cells c e fr) → ∃ c' : Array Value, w'.heap[k]? = some (.cells c' e fr)
  maps : ∀ (k : Nat) (es : Array MapEntry) (clk : Nat), w.heap[k]? = some (.map es clk) → k ∉ ms → w'.heap[k]? = w.heap[k]?

variable {tys : List TypeId} {ms : List Nat} {w w1 w2 : World}

theorem TF.refl (tys : List TypeId) (ms : List Nat) (w : World) : TF tys ms w w := ⟨rfl, rfl, rfl, Nat.le_refl _, fun _ _ _ _ _ _ => rfl, fun _ c _ _ h => ⟨c, h⟩, fun _ _ _ _ _ => rfl⟩

theorem TF.trans (h : TF tys ms w w1) (k : TF tys ms w1 w2) : TF tys ms w w2 := by
  refine ⟨k.os.trans h.os, k.tape.trans h.tape, k.output.trans h.output, Nat.le_trans h.size k.size, ?_, ?_, ?_⟩
  · intro b c e fr hb he
    have h1 := h.cells b c e fr hb he
    rw [k.cells b c e fr (h1.trans hb) he, h1]
  · intro b c e fr hb
    obtain ⟨c1, h1⟩ := h.typ b c e fr hb
    exact k.typ b c1 e fr h1
  · intro b es clk hb hn
    have h1 := h.maps b es clk hb hn
    rw [k.maps b es clk (h1.trans hb) hn, h1]

theorem TF.mono {tys' : List TypeId} {ms' : List Nat} (h : TF tys ms w w1) (h1 : ∀ t ∈ tys, t ∈ tys') (h2 : ∀ t ∈ ms, t ∈ ms') : TF tys' ms' w w1 :=
  ⟨h.os, h.tape, h.output, h.size, fun k c e fr hb he => h.cells k c e fr hb (fun hm => he (h1 e hm)), h.typ, fun k es clk hb hn => h.maps k es clk hb (fun hm => hn (h2 k hm))⟩

theorem TF.below (h : Below w.heap.size w w1) : TF tys ms w w1 := by
  refine ⟨h.os, h.tape, h.output, h.size, ?_, ?_, ?_⟩
  · intro k c e fr hb _
    exact h.block k (Array.getElem?_eq_some_iff.1 hb).1
  · intro k c e fr hb
    exact ⟨c, (h.block k (Array.getElem?_eq_some_iff.1 hb).1).trans hb⟩
  · intro k es clk hb _
    exact h.block k (Array.getElem?_eq_some_iff.1 hb).1

theorem TF.alloc (w : World) (o : Obj) : TF tys ms w (w.alloc o) := TF.below ((Below.refl _ _).alloc (Nat.le_refl _) _)

theorem TF.grown {base : Nat} {e : TypeId} {size : Nat} {v : Value} {n : Nat} {xs : List Value} (h : w.ownsRow base e size v n xs) (h1 : w1.ownsRow base e size v n xs) (hg : w.grownBy w1 v.ownBlock) (he : e ∈ tys) : TF tys ms w w1 := by
  have key : ∀ (k : Nat) (o : Obj), w.heap[k]? = some o → (w1.heap[k]? = some o) ∨ (∃ cur cur' : Array Value, o = .cells cur e (0, 0) ∧ w1.heap[k]? = some (.cells cur' e (0, 0))) := by
    intro k o hk
    by_cases hb : some k = v.ownBlock
    · right
      rcases h.2 with ⟨rfl, _⟩ | ⟨g, cap, cur, rfl, _, hh, _⟩
      · simp [Value.ownBlock] at hb
      · simp [Value.ownBlock] at hb
        subst hb
        rcases h1.2 with ⟨hv, _⟩ | ⟨g', cap', cur', hv, _, hh', _⟩
        · simp at hv
        · simp at hv
          obtain ⟨rfl, _⟩ := hv
          rw [hh] at hk
          exact ⟨cur, cur', by simpa using hk.symm, hh'⟩
    · left
      rw [hg.block k (Array.getElem?_eq_some_iff.1 hk).1 hb, hk]
  refine ⟨hg.os, hg.tape, hg.output, hg.size, ?_, ?_, ?_⟩
  · intro k c e' fr hb hn
    rcases key k _ hb with h | ⟨cur, cur', ho, h⟩
    · rw [h, hb]
    · simp at ho
      exact absurd he (ho.2.1 ▸ hn)
  · intro k c e' fr hb
    rcases key k _ hb with h | ⟨cur, cur', ho, h⟩
    · exact ⟨c, h⟩
    · simp at ho
      obtain ⟨_, rfl, rfl⟩ := ho
      exact ⟨cur', h⟩
  · intro k es clk hb _
    rcases key k _ hb with h | ⟨cur, cur', ho, h⟩
    · rw [h, hb]
    · simp at ho

theorem TF.setCell {a : Addr} {c : Array Value} {e : TypeId} {fr : Nat × Nat} (h : w.heap[a.block]? = some (.cells c e fr)) (he : e ∈ tys) (u : Value) : TF tys ms w (w.setCell a u) := by
  refine ⟨rfl, rfl, rfl, by simp [World.setCell], ?_, ?_, ?_⟩
  · intro k c' e' fr' hb hn
    refine Below.heap_setCell _ _ _ _ fun e1 => ?_
    subst e1
    rw [h] at hb
    simp at hb
    exact hn (hb.2.1 ▸ he)
  · intro k c' e' fr' hb
    by_cases e1 : k = a.block
    · subst e1
      simp only [World.setCell, Array.getElem?_modify, if_true, hb]
      exact ⟨_, rfl⟩
    · rw [Below.heap_setCell _ _ _ _ e1, hb]
      exact ⟨_, rfl⟩
  · intro k es clk hb _
    refine Below.heap_setCell _ _ _ _ fun e1 => ?_
    subst e1
    rw [h] at hb
    simp at hb

theorem TF.map {M : Nat} {es : Array MapEntry} {clk : Nat} (h : w.heap[M]? = some (.map es clk)) (hg : w.grownBy w1 (some M)) (hm : M ∈ ms) : TF tys ms w w1 := by
  refine ⟨hg.os, hg.tape, hg.output, hg.size, ?_, ?_, ?_⟩
  · intro k c e fr hb _
    refine hg.block k (Array.getElem?_eq_some_iff.1 hb).1 fun e1 => ?_
    simp at e1
    subst e1
    rw [h] at hb
    simp at hb
  · intro k c e fr hb
    refine ⟨c, ?_⟩
    rw [hg.block k (Array.getElem?_eq_some_iff.1 hb).1 fun e1 => ?_, hb]
    simp at e1
    subst e1
    rw [h] at hb
    simp at hb
  · intro k es' clk' hb hn
    refine hg.block k (Array.getElem?_eq_some_iff.1 hb).1 fun e1 => ?_
    simp at e1
    exact hn (e1 ▸ hm)

/-- What is owned in rows of a type that is not listed stays owned. -/
theorem TF.own {base : Nat} {e : TypeId} {size : Nat} {v : Value} {n : Nat} {xs : List Value} (h : TF tys ms w w1) (ho : w.ownsRow base e size v n xs) (he : e ∉ tys) : w1.ownsRow base e size v n xs := by
  refine ⟨ho.1, ?_⟩
  rcases ho.2 with hn | ⟨g, cap, cur, rfl, hg, hh, r⟩
  · exact Or.inl hn
  · exact Or.inr ⟨g, cap, cur, rfl, hg, (h.cells g _ _ _ hh he).trans hh, r⟩

theorem TF.at (h : TF tys ms w w1) {k : Nat} {c : Array Value} {e : TypeId} {fr : Nat × Nat} (hb : w.heap[k]? = some (.cells c e fr)) (he : e ∉ tys) : w1.heap[k]? = some (.cells c e fr) := (h.cells k c e fr hb he).trans hb

/-- A row of the call's own is written: what was there when the call began is as it was. -/
theorem TF.new {base : Nat} {e : TypeId} {size : Nat} {v : Value} {n : Nat} {xs : List Value} (h : TF tys ms w w1) (ho : w1.ownsRow base e size v n xs) (hb : w.heap.size ≤ base) (hg : w1.grownBy w2 v.ownBlock) : TF tys ms w w2 := by
  have key : ∀ k, k < w.heap.size → w2.heap[k]? = w1.heap[k]? := by
    intro k hk
    refine hg.block k (by have := h.size; omega) fun e1 => ?_
    have := (ho.lt k e1.symm).1
    omega
  refine ⟨hg.os.trans h.os, hg.tape.trans h.tape, hg.output.trans h.output, Nat.le_trans h.size hg.size, ?_, ?_, ?_⟩
  · intro k c e' fr hb' hn
    rw [key k (Array.getElem?_eq_some_iff.1 hb').1]
    exact h.cells k c e' fr hb' hn
  · intro k c e' fr hb'
    rw [key k (Array.getElem?_eq_some_iff.1 hb').1]
    exact h.typ k c e' fr hb'
  · intro k es clk hb' hn
    rw [key k (Array.getElem?_eq_some_iff.1 hb').1]
    exact h.maps k es clk hb' hn

theorem alloc_at {X : World} {k : Nat} {o : Obj} (h : k = X.heap.size) : (X.alloc o).heap[k]? = some o := by subst h; exact heap_alloc_new X o
theorem alloc_lt {X : World} {k : Nat} {o : Obj} (h : k < X.heap.size) : (X.alloc o).heap[k]? = X.heap[k]? := Below.heap_alloc X o k h

/-- A cell of a block that is known whole. -/
theorem cell_of {b : Nat} {c : Array Value} {e : TypeId} {fr : Nat × Nat} (h : w.heap[b]? = some (.cells c e fr)) (i : Nat) : w.cell? ⟨b, i, none⟩ = c[i]? := by simp [World.cell?, h]
theorem free_of {b : Nat} {c : Array Value} {e : TypeId} (h : w.heap[b]? = some (.cells c e (0, 0))) (i : Nat) : w.frozen? ⟨b, i, none⟩ = false := by simp [World.frozen?, h]
theorem setCell_heap {b i : Nat} {c : Array Value} {e : TypeId} {fr : Nat × Nat} (h : w.heap[b]? = some (.cells c e fr)) (u : Value) : (w.setCell ⟨b, i, none⟩ u).heap[b]? = some (.cells (c.setIfInBounds i u) e fr) := by
  simp only [World.setCell, Array.getElem?_modify, if_true, h]
  rfl

end Go.Proofs.Ytnaedpfaeioolaa
