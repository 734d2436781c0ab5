/- What validType0 keeps: the declarations' types in memory, the checker, the rows of its nest and path. -/
import Derived.Test.YtnaedpfaeioolaaWv2
import Derived.Test.YtnaedpfaeioolaaWv3
import Derived.Test.YtnaedpfaeioolaaWp
namespace Go.Proofs.Ytnaedpfaeioolaa
open Go.RowKit
set_option linter.unusedVariables false

theorem own_shrink {w2 w3 : World} {base : Nat} {e : TypeId} {v v' : Value} {n : Nat} {xs : List Value} {p : Value} (h1 : w2.ownsRow base e 1 v n xs) (h2 : w2.ownsRow base e 1 v' (n + 1) (xs ++ [p])) (h3 : w3.ownsRow base e 1 v' (n + 1) (xs ++ [p]))
    (hb : v.ownBlock = v'.ownBlock) : w3.ownsRow base e 1 v n xs := by
  refine ⟨h1.1, ?_⟩
  rcases h1.2 with hn | ⟨g, cap, cur, rfl, hg, hh, h5, h6, h7, h8⟩
  · exact Or.inl hn
  · rcases h2.2 with ⟨_, h0⟩ | ⟨g', cap', cur', rfl, hg', hh', h5', h6', h7', h8'⟩
    · omega
    · simp [Value.ownBlock] at hb
      subst hb
      rw [hh] at hh'
      simp at hh'
      subst hh'
      have hcc : cap = cap' := by omega
      subst hcc
      rcases h3.2 with ⟨_, h0⟩ | ⟨g3, cap3, cur3, hv3, hg3, hh3, h53, h63, h73, h83⟩
      · omega
      · simp at hv3
        obtain ⟨rfl, rfl⟩ := hv3
        refine Or.inr ⟨g, cap, cur3, rfl, hg, hh3, h5, h6, h73, ?_⟩
        have hx : xs.length = n := by simpa using h1.1
        have h9 := congrArg (List.take n) h83
        rw [List.take_take, Nat.min_eq_left (by omega), show List.take n (xs ++ [p]) = xs from by rw [← hx]; exact List.take_left] at h9
        simpa using h9

/-- The declarations' types in memory; M: those that are marked. -/
structure Env (ds : List D) (NB OB : Nat → Nat) (M : Nat → Bool) (w : World) : Prop where
  inj : ∀ i j, i < ds.length → j < ds.length → NB i = NB j → i = j
  ali : AliasOk ds NB w
  nam : ∀ n, n < ds.length → alOf ds n = false → ∃ v, w.heap[NB n]? = some (.cells #[pv (OB n), v] 101 (0, 0)) ∧ (M n = false → TyV (alOf ds) NB w Any 0 v (ofOf ds n)) ∧
    (M n = true → ∃ b, v = .iface 106 (.pointer (some ⟨b, 0, none⟩)) ∧ w.heap[b]? = some (.cells #[.bool true] 109 (0, 0)))
  obj : ∀ n, n < ds.length → ∃ t, w.heap[OB n]? = some (.cells #[.int .i64 (n : Int), t] 82 (0, 0))

section
variable {ds : List D} {NB OB : Nat → Nat} {M : Nat → Bool} {w w' : World}

theorem AliasOk.tf {tys : List TypeId} {ms : List Nat} (h : AliasOk ds NB w) (ht : TF tys ms w w') (hd : ∀ ty ∈ 99 :: tyGood, ty ∉ tys) : AliasOk ds NB w' :=
  ⟨fun n hn ha => by
    obtain ⟨p, v, hb, hv⟩ := h.at_ n hn ha
    exact ⟨p, v, ht.at hb (hd 99 (by simp)), hv.tf ht fun ty h => hd ty (List.mem_cons_of_mem _ h)⟩⟩

theorem Env.tf {tys : List TypeId} {ms : List Nat} (h : Env ds NB OB M w) (ht : TF tys ms w w') (hd : ∀ ty ∈ 101 :: 82 :: 99 :: tyGood, ty ∉ tys) : Env ds NB OB M w' := by
  have hg : ∀ ty ∈ tyGood, ty ∉ tys := fun ty h => hd ty (by simp [h])
  refine ⟨h.inj, h.ali.tf ht fun ty h => hd ty (by simp at h ⊢; rcases h with h | h <;> simp [h]), fun n hn ha => ?_, fun n hn => ?_⟩
  · obtain ⟨v, hb, h1, h2⟩ := h.nam n hn ha
    refine ⟨v, ht.at hb (hd 101 (by simp)), fun hm => (h1 hm).tf ht hg, fun hm => ?_⟩
    obtain ⟨b, e, hb2⟩ := h2 hm
    exact ⟨b, e, ht.at hb2 (hg 109 (by decide))⟩
  · obtain ⟨t, hb⟩ := h.obj n hn
    exact ⟨t, ht.at hb (hd 82 (by simp))⟩

theorem marked_tf (n : Nat) {p v : Value} (hb : w.heap[NB n]? = some (.cells #[p, v] 101 (0, 0))) (u : Value) : TF [101] [] w ((w.alloc (.cells #[.bool true] 109)).setCell ⟨NB n, 1, none⟩ u) := by
  have h1 : (w.alloc (.cells #[.bool true] 109)).heap[NB n]? = some (.cells #[p, v] 101 (0, 0)) := below_ext ((Below.refl w.heap.size w).alloc (Nat.le_refl _) _) hb
  exact (TF.alloc w _).trans (TF.setCell h1 (by decide) _)

/-- One more is marked. -/
theorem Env.mark1 (h : Env ds NB OB M w) {n : Nat} (hn : n < ds.length) (ha : alOf ds n = false) :
    Env ds NB OB (fun x => decide (x = n) || M x) ((w.alloc (.cells #[.bool true] 109)).setCell ⟨NB n, 1, none⟩ (.iface 106 (.pointer (some ⟨w.heap.size, 0, none⟩)))) := by
  obtain ⟨v, hb, _, _⟩ := h.nam n hn ha
  have ht := marked_tf n hb (.iface 106 (.pointer (some ⟨w.heap.size, 0, none⟩)))
  have hlt := heap_lt hb
  refine ⟨h.inj, h.ali.tf ht (by decide), fun i hi hai => ?_, fun i hi => ?_⟩
  · by_cases hin : i = n
    · subst hin
      have h1 : (w.alloc (.cells #[.bool true] 109)).heap[NB i]? = some (.cells #[pv (OB i), v] 101 (0, 0)) := below_ext ((Below.refl w.heap.size w).alloc (Nat.le_refl _) _) hb
      refine ⟨_, by rw [setCell_heap h1]; rfl, by simp, fun _ => ⟨_, rfl, ?_⟩⟩
      rw [Below.heap_setCell _ _ _ _ (show w.heap.size ≠ NB i by omega)]
      exact alloc_at rfl
    · obtain ⟨v', hb', h1, h2⟩ := h.nam i hi hai
      have hne : NB i ≠ NB n := fun e => hin (h.inj i n hi hn e)
      refine ⟨v', ?_, fun hm => (h1 (by simpa [hin] using hm)).tf ht (by decide), fun hm => ?_⟩
      · rw [Below.heap_setCell _ _ _ _ hne, alloc_lt (heap_lt hb')]; exact hb'
      · obtain ⟨b, e, hb2⟩ := h2 (by simpa [hin] using hm)
        exact ⟨b, e, ht.at hb2 (by decide)⟩
  · obtain ⟨t, hb2⟩ := h.obj i hi
    exact ⟨t, ht.at hb2 (by decide)⟩
end

theorem Chk.tf {tys : List TypeId} {ms : List Nat} {w w' : World} {C base : Nat} {k0 k1 k2 : Value} {cyc : List (List Int)} (h : Chk w C base k0 k1 k2 cyc) (ht : TF tys ms w w') (h76 : 76 ∉ tys) (h22 : 22 ∉ tys) (h3 : 3 ∉ tys) : Chk w' C base k0 k1 k2 cyc := by
  obtain ⟨v, hb, hl⟩ := h.ex
  exact ⟨v, ht.at hb h76, hl.tf ht h22 h3⟩

abbrev frm : List TypeId := [76, 101, 100, 22]

/-- What a call of validType0 has made of the world w0. -/
structure Inv (ds : List D) (NB OB : Nat → Nat) (C base : Nat) (k0 k1 k2 : Value) (w0 : World) (M : Nat → Bool) (cyc : List (List Int)) (path : List Nat) (nestv pathv : Value) (w : World) : Prop where
  env : Env ds NB OB M w
  chk : Chk w C base k0 k1 k2 cyc
  tf : TF frm [] w0 w
  bel : Below base w0 w
  nest : w.ownsRow base 100 1 nestv path.length (path.map fun j => pv (NB j))
  path : w.ownsRow base 100 1 pathv path.length (path.map fun j => pv (NB j))
  keep : ∀ b c fr, w0.heap[b]? = some (.cells c 100 fr) → nestv.ownBlock ≠ some b → pathv.ownBlock ≠ some b → w.heap[b]? = w0.heap[b]?

section
variable {ds : List D} {NB OB : Nat → Nat} {C base : Nat} {k0 k1 k2 : Value} {w0 w1 w2 w : World} {M M1 M2 : Nat → Bool} {cyc cyc1 cyc2 : List (List Int)} {path : List Nat} {nestv pathv : Value}

theorem Inv.self (h : Inv ds NB OB C base k0 k1 k2 w0 M cyc path nestv pathv w) : Inv ds NB OB C base k0 k1 k2 w M cyc path nestv pathv w :=
  ⟨h.env, h.chk, TF.refl _ _ _, Below.refl _ _, h.nest, h.path, fun _ _ _ _ _ _ => rfl⟩
theorem Inv.trans (h : Inv ds NB OB C base k0 k1 k2 w0 M1 cyc1 path nestv pathv w1) (k : Inv ds NB OB C base k0 k1 k2 w1 M2 cyc2 path nestv pathv w2) : Inv ds NB OB C base k0 k1 k2 w0 M2 cyc2 path nestv pathv w2 :=
  ⟨k.env, k.chk, h.tf.trans k.tf, h.bel.trans k.bel, k.nest, k.path, fun b c fr hb h1 h2 => by
    have e1 := h.keep b c fr hb h1 h2
    rw [k.keep b c fr (e1.trans hb) h1 h2, e1]⟩

/-- What holds where validType0 is called. -/
structure Pre (ds : List D) (NB OB : Nat → Nat) (C base : Nat) (k0 k1 k2 : Value) (M : Nat → Bool) (cyc : List (List Int)) (path : List Nat) (nestv pathv : Value) (w : World) : Prop where
  inv : Inv ds NB OB C base k0 k1 k2 w M cyc path nestv pathv w
  nodup : path.Nodup
  pth : ∀ n ∈ path, n < ds.length ∧ alOf ds n = false
  dis : ∀ b, nestv.ownBlock = some b → pathv.ownBlock ≠ some b
  bas : base ≤ w.heap.size
  cy : cyc.length ≤ 500

theorem Pre.later (h : Pre ds NB OB C base k0 k1 k2 M cyc path nestv pathv w0) (k : Inv ds NB OB C base k0 k1 k2 w0 M cyc path nestv pathv w) : Pre ds NB OB C base k0 k1 k2 M cyc path nestv pathv w :=
  ⟨k.self, h.nodup, h.pth, h.dis, Nat.le_trans h.bas k.tf.size, h.cy⟩

/-- The two appends ahead of a deeper call, and what the deeper call's end says of the caller's. -/
theorem Pre.push {m : Nat} {nest' path' : Value} (h : Pre ds NB OB C base k0 k1 k2 M cyc path nestv pathv w) (hm : m ∉ path) (hml : m < ds.length) (hma : alOf ds m = false)
    (g1 : w1.ownsRow base 100 1 nest' (path.length + 1) ((path.map fun j => pv (NB j)) ++ [pv (NB m)])) (g2 : w1.ownsRow base 100 1 nestv path.length (path.map fun j => pv (NB j))) (g3 : w.grownBy w1 nestv.ownBlock)
    (g4 : ∀ k, nest'.ownBlock = some k → nestv.ownBlock = some k ∨ w.heap.size ≤ k)
    (p1 : w1.ownsRow base 100 1 pathv path.length (path.map fun j => pv (NB j)))
    (g5 : w2.ownsRow base 100 1 path' (path.length + 1) ((path.map fun j => pv (NB j)) ++ [pv (NB m)])) (g6 : w2.ownsRow base 100 1 pathv path.length (path.map fun j => pv (NB j))) (g7 : w1.grownBy w2 pathv.ownBlock)
    (g8 : ∀ k, path'.ownBlock = some k → pathv.ownBlock = some k ∨ w1.heap.size ≤ k) :
    Pre ds NB OB C base k0 k1 k2 M cyc (path ++ [m]) nest' path' w2 ∧ ∀ w3 M' cyc', Inv ds NB OB C base k0 k1 k2 w2 M' cyc' (path ++ [m]) nest' path' w3 → Inv ds NB OB C base k0 k1 k2 w M' cyc' path nestv pathv w3 := by
  have hl1 : ∀ k, nestv.ownBlock = some k → k < w.heap.size := fun k hk => (h.inv.nest.lt k hk).2
  have hl2 : ∀ k, pathv.ownBlock = some k → k < w.heap.size := fun k hk => (h.inv.path.lt k hk).2
  have hs1 := g3.size
  have hs2 := g7.size
  have hl3 : ∀ k, nest'.ownBlock = some k → k < w1.heap.size := fun k hk => (g1.lt k hk).2
  have t1 : TF [100] [] w w1 := TF.grown h.inv.nest g2 g3 (by decide)
  have t2 : TF [100] [] w1 w2 := TF.grown p1 g6 g7 (by decide)
  have t12 : TF [100] [] w w2 := t1.trans t2
  have b12 : Below base w w2 := by
    refine below_grown (below_grown (Below.refl _ _) h.inv.nest (Nat.le_refl _) h.bas g3) p1 (Nat.le_refl _) ?_ g7
    exact Nat.le_trans h.bas hs1
  have dNP : ∀ b, nest'.ownBlock = some b → pathv.ownBlock ≠ some b := by
    intro b hb hp
    rcases g4 b hb with h1 | h1
    · exact h.dis b h1 hp
    · have := hl2 b hp; omega
  have dNP2 : ∀ b, nestv.ownBlock = some b → path'.ownBlock ≠ some b := by
    intro b hb hp
    rcases g8 b hp with h1 | h1
    · exact h.dis b hb h1
    · have := hl1 b hb; omega
  have n2 : w2.ownsRow base 100 1 nest' (path.length + 1) ((path.map fun j => pv (NB j)) ++ [pv (NB m)]) := by
    refine g1.kept g7 ?_
    cases hb : nest'.ownBlock with
    | none => exact Or.inl rfl
    | some b => exact Or.inr fun e => dNP b hb e.symm
  have n2o : w2.ownsRow base 100 1 nestv path.length (path.map fun j => pv (NB j)) := by
    refine g2.kept g7 ?_
    cases hb : nestv.ownBlock with
    | none => exact Or.inl rfl
    | some b => exact Or.inr fun e => h.dis b hb e.symm
  have dis' : ∀ b, nest'.ownBlock = some b → path'.ownBlock ≠ some b := by
    intro b hb hp
    rcases g8 b hp with h1 | h1
    · exact dNP b hb h1
    · have := hl3 b hb; omega
  constructor
  · refine ⟨⟨h.inv.env.tf t12 (by decide), h.inv.chk.tf t12 (by decide) (by decide) (by decide), TF.refl _ _ _, Below.refl _ _, by simpa using n2, by simpa using g5, fun _ _ _ _ _ _ => rfl⟩, ?_, ?_, dis', ?_, h.cy⟩
    · rw [List.nodup_append]
      refine ⟨h.nodup, by simp, ?_⟩
      intro a ha b hb
      simp at hb
      subst hb
      intro e
      exact hm (e ▸ ha)
    · intro n hn
      simp at hn
      rcases hn with hn | rfl
      · exact h.pth n hn
      · exact ⟨hml, hma⟩
    · have := h.bas; omega
  · intro w3 M' cyc' k
    have kn : w3.ownsRow base 100 1 nest' (path.length + 1) ((path.map fun j => pv (NB j)) ++ [pv (NB m)]) := by simpa using k.nest
    have kp : w3.ownsRow base 100 1 path' (path.length + 1) ((path.map fun j => pv (NB j)) ++ [pv (NB m)]) := by simpa using k.path
    have blk : ∀ {v : Value} {x : World} {n : Nat} {xs : List Value} {b : Nat}, x.ownsRow base 100 1 v n xs → v.ownBlock = some b → ∃ c, x.heap[b]? = some (.cells c 100 (0, 0)) := by
      intro v x n xs b hv hb
      rcases hv.2 with ⟨rfl, _⟩ | ⟨g, _, cur, rfl, _, hh, _⟩
      · simp [Value.ownBlock] at hb
      · simp [Value.ownBlock] at hb
        subst hb
        exact ⟨cur, hh⟩
    refine ⟨k.env, k.chk, (t12.mono (by decide) (by simp)).trans k.tf, b12.trans k.bel, ?_, ?_, ?_⟩
    · by_cases e : nestv.ownBlock = nest'.ownBlock
      · exact own_shrink n2o n2 kn e
      · refine own_keep n2o fun b hb => ?_
        obtain ⟨c, hc⟩ := blk n2o hb
        refine k.keep b c _ hc (fun h1 => e (hb.trans h1.symm)) (dNP2 b hb)
    · by_cases e : pathv.ownBlock = path'.ownBlock
      · exact own_shrink g6 g5 kp e
      · refine own_keep g6 fun b hb => ?_
        obtain ⟨c, hc⟩ := blk g6 hb
        refine k.keep b c _ hc (fun h1 => dNP b h1 hb) (fun h1 => e (hb.trans h1.symm))
    · intro b c fr hb h1 h2
      have hlt := heap_lt hb
      have e1 : w1.heap[b]? = w.heap[b]? := g3.block b hlt fun e => h1 e.symm
      have e2 : w2.heap[b]? = w1.heap[b]? := g7.block b (by omega) fun e => h2 e.symm
      rw [k.keep b c fr (by rw [e2, e1, hb]) ?_ ?_, e2, e1]
      · intro e
        rcases g4 b e with h3 | h3
        · exact h1 h3
        · omega
      · intro e
        rcases g8 b e with h3 | h3
        · exact h2 h3
        · omega
end

end Go.Proofs.Ytnaedpfaeioolaa
