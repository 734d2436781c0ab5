/- What the loops of ValidTypes keep. -/
import Derived.Test.YtnaedpfaeioolaaWk
import Derived.Test.YtnaedpfaeioolaaVj
namespace Go.Proofs.Ytnaedpfaeioolaa
open Go.RowKit
set_option linter.unusedVariables false

def upd (f : Nat → Nat) (m x : Nat) : Nat → Nat := fun j => if j = m then x else f j
theorem upd_same (f : Nat → Nat) (m x : Nat) : upd f m x m = x := by simp [upd]
theorem upd_lt (f : Nat → Nat) {m j : Nat} (x : Nat) (h : j < m) : upd f m x j = f j := by simp [upd]; omega

/-- The first m names have been laid; the types of the first k have been made. -/
structure TP (ds : List D) (NB OB : Nat → Nat) (C base : Nat) (k0 k1 k2 : Value) (w0 : World) (tv : Value) (m k : Nat) (wr : World) : Prop where
  own : wr.ownsRow base 80 1 tv m ((List.range m).map (nv (alOf ds) NB))
  inj : ∀ i j, i < m → j < m → NB i = NB j → i = j
  nbs : ∀ j, j < m → ∃ v, wr.heap[NB j]? = some (.cells #[pv (OB j), v] (if alOf ds j = true then 99 else 101) (0, 0)) ∧ (j < k → TyV (alOf ds) NB wr Any 0 v (ofOf ds j))
  obj : ∀ j, j < m → ∃ t, wr.heap[OB j]? = some (.cells #[.int .i64 (j : Int), t] 82 (0, 0))
  ge : ∀ j, j < m → base ≤ NB j
  chk : Chk wr C base k0 k1 k2 []
  bel : Below base w0 wr
  siz : base ≤ wr.heap.size

section
variable {ds : List D} {NB OB : Nat → Nat} {C base : Nat} {k0 k1 k2 : Value} {w0 w1 w2 wr : World} {tv tv' : Value} {m k : Nat}

theorem TP.tf {tys : List TypeId} {ms : List Nat} (h : TP ds NB OB C base k0 k1 k2 w0 tv m k wr) (ht : TF tys ms wr w1) (hd : ∀ ty ∈ 99 :: 101 :: 82 :: 76 :: 22 :: 3 :: tyGood, ty ∉ tys) (hb : Below base w0 w1) : TP ds NB OB C base k0 k1 k2 w0 tv m k w1 := by
  refine ⟨ht.own h.own (hd 80 (by decide)), h.inj, fun j hj => ?_, fun j hj => ?_, h.ge, h.chk.tf ht (hd 76 (by simp)) (hd 22 (by simp)) (hd 3 (by simp)), hb, Nat.le_trans h.siz ht.size⟩
  · obtain ⟨v, hv, h1⟩ := h.nbs j hj
    exact ⟨v, ht.at hv (by split <;> exact hd _ (by simp)), fun hk => (h1 hk).tf ht fun ty h => hd ty (by simp [h])⟩
  · obtain ⟨t, hb⟩ := h.obj j hj
    exact ⟨t, ht.at hb (hd 82 (by simp))⟩

theorem TP.ext (h : TP ds NB OB C base k0 k1 k2 w0 tv m k wr) (hb : Below wr.heap.size wr w1) : TP ds NB OB C base k0 k1 k2 w0 tv m k w1 :=
  h.tf (TF.below (tys := []) (ms := []) hb) (by simp) (h.bel.trans (hb.mono h.siz))

/-- One name more. -/
theorem TP.more (h : TP ds NB OB C base k0 k1 k2 w0 tv m 0 wr) {O Z : Nat} (hb : Below wr.heap.size wr w1) (hO : w1.heap[O]? = some (.cells #[.int .i64 (m : Int), .nilIface] 82 (0, 0)))
    (hZ : w1.heap[Z]? = some (.cells #[pv O, .nilIface] (if alOf ds m = true then 99 else 101) (0, 0))) (hZn : wr.heap.size ≤ Z)
    (g1 : w2.ownsRow base 80 1 tv' (m + 1) ((List.range m).map (nv (alOf ds) NB) ++ [.iface (if alOf ds m = true then 97 else 100) (.pointer (some ⟨Z, 0, none⟩))])) (g2 : w2.ownsRow base 80 1 tv m ((List.range m).map (nv (alOf ds) NB))) (g3 : w1.grownBy w2 tv.ownBlock) :
    TP ds (upd NB m Z) (upd OB m O) C base k0 k1 k2 w0 tv' (m + 1) 0 w2 := by
  have hx := h.ext hb
  have t2 : TF [80] [] w1 w2 := TF.grown hx.own g2 g3 (by decide)
  have hlt : ∀ j, j < m → NB j < wr.heap.size := fun j hj => by obtain ⟨v, hv, _⟩ := h.nbs j hj; exact heap_lt hv
  refine ⟨?_, ?_, fun j hj => ?_, fun j hj => ?_, fun j hj => ?_, hx.chk.tf t2 (by decide) (by decide) (by decide), below_grown hx.bel hx.own (Nat.le_refl _) hx.siz g3, Nat.le_trans hx.siz t2.size⟩
  · rw [List.range_succ, List.map_append]
    have e1 : (List.range m).map (nv (alOf ds) (upd NB m Z)) = (List.range m).map (nv (alOf ds) NB) := List.map_congr_left fun j hj => by
      unfold nv; rw [upd_lt _ _ (List.mem_range.1 hj)]
    rw [e1]
    simpa [nv, upd_same] using g1
  · intro i j hi hj e
    rcases (show i < m ∨ i = m by omega) with h1 | h1 <;> rcases (show j < m ∨ j = m by omega) with h2 | h2
    · rw [upd_lt _ _ h1, upd_lt _ _ h2] at e; exact h.inj i j h1 h2 e
    · rw [upd_lt _ _ h1, h2, upd_same] at e; have := hlt i h1; omega
    · rw [upd_lt _ _ h2, h1, upd_same] at e; have := hlt j h2; omega
    · omega
  · rcases (show j < m ∨ j = m by omega) with h1 | rfl
    · obtain ⟨v, hv, _⟩ := hx.nbs j h1
      rw [upd_lt _ _ h1, upd_lt _ _ h1]
      exact ⟨v, t2.at hv (by split <;> decide), fun h => by omega⟩
    · rw [upd_same, upd_same]
      exact ⟨_, t2.at hZ (by split <;> decide), fun h => by omega⟩
  · rcases (show j < m ∨ j = m by omega) with h1 | rfl
    · obtain ⟨t, ht⟩ := hx.obj j h1
      rw [upd_lt _ _ h1]
      exact ⟨t, t2.at ht (by decide)⟩
    · rw [upd_same]
      exact ⟨_, t2.at hO (by decide)⟩
  · rcases (show j < m ∨ j = m by omega) with h1 | rfl
    · rw [upd_lt _ _ h1]; exact h.ge j h1
    · rw [upd_same]; have := h.siz; omega

/-- One type more has been made. -/
theorem TP.made (h : TP ds NB OB C base k0 k1 k2 w0 tv m k wr) (hk : k < m) {x : Value} (hb : Below wr.heap.size wr w1) (hx : TyV (alOf ds) NB w1 Any 0 x (ofOf ds k)) :
    TP ds NB OB C base k0 k1 k2 w0 tv m (k + 1) (w1.setCell ⟨NB k, 1, none⟩ x) := by
  have h1 := h.ext hb
  obtain ⟨v, hv, _⟩ := h1.nbs k hk
  have t2 : TF [99, 101] [] w1 (w1.setCell ⟨NB k, 1, none⟩ x) := TF.setCell hv (by split <;> decide) _
  refine ⟨t2.own h1.own (by decide), h.inj, fun j hj => ?_, fun j hj => ?_, h.ge, h1.chk.tf t2 (by decide) (by decide) (by decide), h1.bel.setCell (h.ge k hk) _, Nat.le_trans h1.siz t2.size⟩
  · by_cases e : j = k
    · subst e
      exact ⟨x, by rw [setCell_heap hv]; rfl, fun _ => hx.tf t2 (by decide)⟩
    · obtain ⟨v', hv', h2⟩ := h1.nbs j hj
      refine ⟨v', ?_, fun h3 => (h2 (by omega)).tf t2 (by decide)⟩
      rw [Below.heap_setCell _ _ _ _ (show NB j ≠ NB k from fun e1 => e (h.inj j k hj hk e1))]
      exact hv'
  · obtain ⟨t, ht⟩ := h1.obj j hj
    exact ⟨t, t2.at ht (by decide)⟩

/-- All types have been made, none is marked. -/
theorem TP.env (h : TP ds NB OB C base k0 k1 k2 w0 tv ds.length ds.length wr) : Env ds NB OB (fun _ => false) wr := by
  refine ⟨h.inj, ⟨fun n hn ha => ?_⟩, fun n hn ha => ?_, h.obj⟩
  · obtain ⟨v, hv, h1⟩ := h.nbs n hn
    rw [if_pos ha] at hv
    exact ⟨_, v, hv, h1 hn⟩
  · obtain ⟨v, hv, h1⟩ := h.nbs n hn
    rw [if_neg (by rw [ha]; decide)] at hv
    exact ⟨v, hv, fun _ => h1 hn, fun h => by simp at h⟩
end

/-- What the third loop keeps: the answers of the checks so far. -/
structure S3 (ds : List D) (NB OB : Nat → Nat) (C base : Nat) (k0 k1 k2 : Value) (w0 : World) (tv vv : Value) (k : Nat) (wr : World) : Prop where
  own : wr.ownsRow base 80 1 tv ds.length ((List.range ds.length).map (nv (alOf ds) NB))
  val : wr.ownsRow base 4 1 vv k ((vt (alOf ds) (GG ds) ds.length k).1.map Value.bool)
  env : Env ds NB OB (vt (alOf ds) (GG ds) ds.length k).2.1 wr
  chk : Chk wr C base k0 k1 k2 (vt (alOf ds) (GG ds) ds.length k).2.2
  bel : Below base w0 wr
  siz : base ≤ wr.heap.size

section
variable {ds : List D} {NB OB : Nat → Nat} {C base : Nat} {k0 k1 k2 : Value} {w0 w1 w2 wr : World} {tv vv vv' : Value} {k : Nat}

theorem S3.pre (h : S3 ds NB OB C base k0 k1 k2 w0 tv vv k wr) (hk : k ≤ 100) : Pre ds NB OB C base k0 k1 k2 (vt (alOf ds) (GG ds) ds.length k).2.1 (vt (alOf ds) (GG ds) ds.length k).2.2 [] (.slice none 0 0) (.slice none 0 0) wr := by
  refine ⟨⟨h.env, h.chk, TF.refl _ _ _, Below.refl _ _, World.ownsRow_nil _ _ _ _, World.ownsRow_nil _ _ _ _, fun _ _ _ _ _ _ => rfl⟩, List.nodup_nil, by simp, by simp [Value.ownBlock], h.siz, ?_⟩
  have := vt_cyc (alOf ds) (GG ds) ds.length k
  omega

/-- An alias is valid. -/
theorem S3.alias (h : S3 ds NB OB C base k0 k1 k2 w0 tv vv k wr) (ha : alOf ds k = true)
    (g1 : w1.ownsRow base 4 1 vv' (k + 1) ((vt (alOf ds) (GG ds) ds.length k).1.map Value.bool ++ [.bool true])) (g2 : w1.ownsRow base 4 1 vv k ((vt (alOf ds) (GG ds) ds.length k).1.map Value.bool)) (g3 : wr.grownBy w1 vv.ownBlock) :
    S3 ds NB OB C base k0 k1 k2 w0 tv vv' (k + 1) w1 := by
  have t2 : TF [4] [] wr w1 := TF.grown h.val g2 g3 (by decide)
  have e : vt (alOf ds) (GG ds) ds.length (k + 1) = ((vt (alOf ds) (GG ds) ds.length k).1 ++ [true], (vt (alOf ds) (GG ds) ds.length k).2) := by rw [vt_succ]; unfold vtStep; rw [if_pos ha]
  refine ⟨t2.own h.own (by decide), ?_, ?_, ?_, below_grown h.bel h.val (Nat.le_refl _) h.siz g3, Nat.le_trans h.siz t2.size⟩
  · rw [e]; simpa using g1
  · rw [e]; exact h.env.tf t2 (by decide)
  · rw [e]; exact h.chk.tf t2 (by decide) (by decide) (by decide)

/-- A defined type has been checked. -/
theorem S3.named (h : S3 ds NB OB C base k0 k1 k2 w0 tv vv k wr) (ha : alOf ds k = false) {r : Bool}
    (hq : QV ds NB OB C base k0 k1 k2 wr (vt (alOf ds) (GG ds) ds.length k).2.1 (vt (alOf ds) (GG ds) ds.length k).2.2 [] (.slice none 0 0) (.slice none 0 0) (find (GG ds) (vt (alOf ds) (GG ds) ds.length k).2.1 ds.length [] [k]) r w1)
    (g1 : w2.ownsRow base 4 1 vv' (k + 1) ((vt (alOf ds) (GG ds) ds.length k).1.map Value.bool ++ [.bool r])) (g2 : w2.ownsRow base 4 1 vv k ((vt (alOf ds) (GG ds) ds.length k).1.map Value.bool)) (g3 : w1.grownBy w2 vv.ownBlock) :
    S3 ds NB OB C base k0 k1 k2 w0 tv vv' (k + 1) w2 := by
  obtain ⟨rfl, hi⟩ := hq
  have v1 := hi.tf.own h.val (by decide)
  have t2 : TF [4] [] w1 w2 := TF.grown v1 g2 g3 (by decide)
  have e : vt (alOf ds) (GG ds) ds.length (k + 1) = ((vt (alOf ds) (GG ds) ds.length k).1 ++ [(find (GG ds) (vt (alOf ds) (GG ds) ds.length k).2.1 ds.length [] [k]).isNone], mark (vt (alOf ds) (GG ds) ds.length k).2.1 (find (GG ds) (vt (alOf ds) (GG ds) ds.length k).2.1 ds.length [] [k]), addc (vt (alOf ds) (GG ds) ds.length k).2.2 (find (GG ds) (vt (alOf ds) (GG ds) ds.length k).2.1 ds.length [] [k])) := by
    rw [vt_succ]; unfold vtStep; rw [if_neg (by rw [ha]; decide)]
  have s1 : base ≤ w1.heap.size := Nat.le_trans h.siz hi.tf.size
  refine ⟨t2.own (hi.tf.own h.own (by decide)) (by decide), ?_, ?_, ?_, below_grown (h.bel.trans hi.bel) v1 (Nat.le_refl _) s1 g3, Nat.le_trans s1 t2.size⟩
  · rw [e]; simpa using g1
  · rw [e]; exact hi.env.tf t2 (by decide)
  · rw [e]; exact hi.chk.tf t2 (by decide) (by decide) (by decide)
end

/-- What the last loop keeps: the marks so far. -/
structure S4 (ds : List D) (NB OB : Nat → Nat) (C base : Nat) (k0 k1 k2 : Value) (w0 : World) (tv vv mv : Value) (k : Nat) (wr : World) : Prop where
  own : wr.ownsRow base 80 1 tv ds.length ((List.range ds.length).map (nv (alOf ds) NB))
  val : wr.ownsRow base 4 1 vv ds.length ((vtValid (alOf ds) (GG ds) ds.length).map Value.bool)
  mar : wr.ownsRow base 4 1 mv k (((vtMarked (alOf ds) (GG ds) ds.length).take k).map Value.bool)
  env : Env ds NB OB (vt (alOf ds) (GG ds) ds.length ds.length).2.1 wr
  chk : Chk wr C base k0 k1 k2 (vtCycles (alOf ds) (GG ds) ds.length)
  bel : Below base w0 wr
  siz : base ≤ wr.heap.size
  dis : ∀ b, mv.ownBlock = some b → vv.ownBlock ≠ some b

section
variable {ds : List D} {NB OB : Nat → Nat} {C base : Nat} {k0 k1 k2 : Value} {w0 w1 wr : World} {tv vv mv mv' : Value} {k : Nat}

theorem S4.more (h : S4 ds NB OB C base k0 k1 k2 w0 tv vv mv k wr) (hk : k < ds.length)
    (g1 : w1.ownsRow base 4 1 mv' (k + 1) (((vtMarked (alOf ds) (GG ds) ds.length).take k).map Value.bool ++ [.bool (!alOf ds k && (vt (alOf ds) (GG ds) ds.length ds.length).2.1 k)])) (g2 : w1.ownsRow base 4 1 mv k (((vtMarked (alOf ds) (GG ds) ds.length).take k).map Value.bool))
    (g3 : wr.grownBy w1 mv.ownBlock) (g4 : ∀ b, mv'.ownBlock = some b → mv.ownBlock = some b ∨ wr.heap.size ≤ b) : S4 ds NB OB C base k0 k1 k2 w0 tv vv mv' (k + 1) w1 := by
  have t2 : TF [4] [] wr w1 := TF.grown h.mar g2 g3 (by decide)
  have hl : (vtMarked (alOf ds) (GG ds) ds.length).length = ds.length := by simp [vtMarked]
  refine ⟨t2.own h.own (by decide), ?_, ?_, h.env.tf t2 (by decide), h.chk.tf t2 (by decide) (by decide) (by decide), below_grown h.bel h.mar (Nat.le_refl _) h.siz g3, Nat.le_trans h.siz t2.size, ?_⟩
  · refine h.val.kept g3 ?_
    cases hb : vv.ownBlock with
    | none => exact Or.inl rfl
    | some b => exact Or.inr fun e => h.dis b e.symm hb
  · rw [List.take_succ_eq_append_getElem (by rw [hl]; exact hk), List.map_append]
    simpa [vtMarked] using g1
  · intro b hb hv
    rcases g4 b hb with h1 | h1
    · exact h.dis b h1 hv
    · have := (h.val.lt b hv).2; omega
end

end Go.Proofs.Ytnaedpfaeioolaa
