/- The contract of validtypes.DirectCycles and impl.Direct: the cycles and the marks as the plain function dcAll says. At most 30 numbers, each a name or -1. -/
import Derived.Test.YtnaedpfaeioolaaD9
namespace Go.Proofs.Ytnaedpfaeioolaa
open Go.RowKit
set_option linter.unusedVariables false

theorem Scope1.congr {w : World} {M k : Nat} {T T' : Nat → Nat} (h : Scope1 w M k T) (he : ∀ j, j < k → T j = T' j) : Scope1 w M k T' := by
  obtain ⟨es, clk, h1, h2⟩ := h
  refine ⟨es, clk, h1, h2.trans (List.map_congr_left fun j hj => ?_)⟩
  rw [he j (List.mem_range.1 hj)]
theorem Decls.congr {w : World} {M k : Nat} {T T' D D' : Nat → Nat} (h : Decls w M k T D) (he : ∀ j, j < k → T j = T' j) (hd : ∀ j, j < k → D j = D' j) : Decls w M k T' D' := by
  obtain ⟨es, clk, h1, h2⟩ := h
  refine ⟨es, clk, h1, h2.trans (List.map_congr_left fun j hj => ?_)⟩
  rw [he j (List.mem_range.1 hj), hd j (List.mem_range.1 hj)]

/-- What has been built behind k names. -/
structure Blt (wr : World) (B : Nat) (r : List Int) (k : Nat) (T D : Nat → Nat) (nv k1 : Value) : Prop where
  names : wr.ownsRow (B + 5) 78 1 nv k ((List.range k).map (ptrV T))
  objs : wr.ownsRow (B + 5) 84 1 k1 k ((List.range k).map (objV T))
  chk : wr.heap[B + 4]? = some (.cells #[.pointer (some ⟨B + 2, 0, none⟩), k1, .map (some (B + 3)), .slice none 0 0] 76 (0, 0))
  stat : Stat wr B r k T D
  nm : Nm wr B k T (fun _ => false)

def put (f : Nat → Nat) (k v : Nat) (j : Nat) : Nat := if j = k then v else f j
theorem put_at (f : Nat → Nat) (k v : Nat) : put f k v k = v := by simp [put]
theorem put_lt (f : Nat → Nat) (k v : Nat) : ∀ j, j < k → f j = put f k v j := fun j h => by simp [put]; omega

theorem range_put {α : Type} (g : (Nat → Nat) → Nat → α) (hg : ∀ f f' : Nat → Nat, ∀ j, f j = f' j → g f j = g f' j) (f : Nat → Nat) (k v : Nat) :
    (List.range (k + 1)).map (g (put f k v)) = (List.range k).map (g f) ++ [g (put f k v) k] := by
  rw [List.range_succ, List.map_append]
  refine congr2 (· ++ ·) (List.map_congr_left fun j hj => ?_) rfl
  exact (hg _ _ j (put_lt f k v j (List.mem_range.1 hj))).symm

theorem ptr_put (T : Nat → Nat) (k v : Nat) : (List.range (k + 1)).map (ptrV (put T k v)) = (List.range k).map (ptrV T) ++ [.pointer (some ⟨v, 0, none⟩)] := by
  rw [range_put ptrV (fun f f' j h => by unfold ptrV; rw [h])]
  unfold ptrV; rw [put_at]
theorem obj_put (T : Nat → Nat) (k v : Nat) : (List.range (k + 1)).map (objV (put T k v)) = (List.range k).map (objV T) ++ [.iface 78 (.pointer (some ⟨v, 0, none⟩))] := by
  rw [range_put objV (fun f f' j h => by unfold objV; rw [h])]
  unfold objV; rw [put_at]

theorem alloc_at {X : World} {k : Nat} {o : Obj} (h : k = X.heap.size) : (X.alloc o).heap[k]? = some o := by subst h; exact heap_alloc_new X o
theorem alloc_lt {X : World} {k : Nat} {o : Obj} (h : k < X.heap.size) : (X.alloc o).heap[k]? = X.heap[k]? := Below.heap_alloc X o k h

/-- The world in which the building begins. -/
def W5 (w : World) : World := ((((w.alloc (.map #[] 0)).alloc (.cells #[.map (some w.heap.size)] 70)).alloc (.cells #[.pointer (some ⟨w.heap.size + 1, 0, none⟩)] 72)).alloc (.map #[] 0)).alloc
  (.cells #[.pointer (some ⟨w.heap.size + 2, 0, none⟩), .slice none 0 0, .map (some (w.heap.size + 3)), .slice none 0 0] 76)

theorem W5_at (w : World) : (W5 w).heap[w.heap.size]? = some (.map #[] 0) ∧ (W5 w).heap[w.heap.size + 1]? = some (.cells #[.map (some w.heap.size)] 70 (0, 0)) ∧
    (W5 w).heap[w.heap.size + 2]? = some (.cells #[.pointer (some ⟨w.heap.size + 1, 0, none⟩)] 72 (0, 0)) ∧ (W5 w).heap[w.heap.size + 3]? = some (.map #[] 0) ∧
    (W5 w).heap[w.heap.size + 4]? = some (.cells #[.pointer (some ⟨w.heap.size + 2, 0, none⟩), .slice none 0 0, .map (some (w.heap.size + 3)), .slice none 0 0] 76 (0, 0)) := by
  unfold W5
  refine ⟨?_, ?_, ?_, ?_, ?_⟩
  · rw [alloc_lt (by simp <;> omega), alloc_lt (by simp <;> omega), alloc_lt (by simp <;> omega), alloc_lt (by simp <;> omega), alloc_at (by simp)]
  · rw [alloc_lt (by simp <;> omega), alloc_lt (by simp <;> omega), alloc_lt (by simp <;> omega), alloc_at (by simp)]
  · rw [alloc_lt (by simp <;> omega), alloc_lt (by simp <;> omega), alloc_at (by simp)]
  · rw [alloc_lt (by simp <;> omega), alloc_at (by simp)]
  · rw [alloc_at (by simp)]

theorem W5_below (w : World) : Below w.heap.size w (W5 w) :=
  (((((Below.refl _ _).alloc (Nat.le_refl _) _).alloc (by simp) _).alloc (by simp <;> omega) _).alloc (by simp <;> omega) _).alloc (by simp <;> omega) _

theorem W5_blt (w : World) (r : List Int) (T D : Nat → Nat) : Blt (W5 w) w.heap.size r 0 T D (.slice none 0 0) (.slice none 0 0) := by
  obtain ⟨h0, h1, h2, h3, h4⟩ := W5_at w
  exact ⟨World.ownsRow_nil _ _ _ _, World.ownsRow_nil _ _ _ _, h4, ⟨h2, h1, ⟨#[], 0, h0, rfl⟩, ⟨#[], 0, h3, rfl⟩, fun j hj => absurd hj (by omega)⟩,
    ⟨fun j hj => absurd hj (by omega), fun i j hi => absurd hi (by omega), fun j hj => absurd hj (by omega)⟩⟩

theorem W5_size (w : World) : (W5 w).heap.size = w.heap.size + 5 := by simp [W5]

/-- What a declaration's block leads to. -/
def DecAt (w : World) (r : List Int) (j d : Nat) : Prop := ∃ (S : Nat) (e : Value), w.heap[d]? = some (.cells #[.pointer (some ⟨S, 0, none⟩)] 94 (0, 0)) ∧ w.heap[S]? = some (.cells #[e] 92 (0, 0)) ∧
    ((r.getD j (-1) < 0 ∧ e = .nilIface) ∨ (0 ≤ r.getD j (-1) ∧ ∃ I : Nat, e = .iface 86 (.pointer (some ⟨I, 0, none⟩)) ∧ w.heap[I]? = some (.cells #[.int .i64 (r.getD j (-1))] 88 (0, 0))))

/-- Half a round further on: the name is made, not yet what it is declared as. -/
structure Mid (w : World) (B : Nat) (r : List Int) (k : Nat) (T D : Nat → Nat) (nv k1 : Value) : Prop where
  names : w.ownsRow (B + 5) 78 1 nv (k + 1) ((List.range (k + 1)).map (ptrV T))
  objs : w.ownsRow (B + 5) 84 1 k1 (k + 1) ((List.range (k + 1)).map (objV T))
  chk : w.heap[B + 4]? = some (.cells #[.pointer (some ⟨B + 2, 0, none⟩), k1, .map (some (B + 3)), .slice none 0 0] 76 (0, 0))
  pk : w.heap[B + 2]? = some (.cells #[.pointer (some ⟨B + 1, 0, none⟩)] 72 (0, 0))
  sc : w.heap[B + 1]? = some (.cells #[.map (some B)] 70 (0, 0))
  m1 : Scope1 w B (k + 1) T
  m2 : Decls w (B + 3) k T D
  dec : ∀ j, j < k → DecAt w r j (D j)
  nm : Nm w B (k + 1) T (fun _ => false)

theorem DecAt.tf {w w' : World} {r : List Int} {j d : Nat} {tys : List TypeId} {ms : List Nat} (h : DecAt w r j d) (ht : TF tys ms w w') (h1 : 94 ∉ tys) (h2 : 92 ∉ tys) (h3 : 88 ∉ tys) : DecAt w' r j d := by
  obtain ⟨S, e, a1, a2, a3⟩ := h
  refine ⟨S, e, ht.at a1 h1, ht.at a2 h2, ?_⟩
  rcases a3 with a3 | ⟨a3, I, a4, a5⟩
  · exact Or.inl a3
  · exact Or.inr ⟨a3, I, a4, ht.at a5 h3⟩

theorem Mid.alloc {w : World} {B : Nat} {r : List Int} {k : Nat} {T D : Nat → Nat} {nv k1 : Value} (h : Mid w B r k T D nv k1) (o : Obj) : Mid (w.alloc o) B r k T D nv k1 := by
  have ht : TF [] [] w (w.alloc o) := TF.alloc _ _
  exact ⟨h.names.alloc _, h.objs.alloc _, ht.at h.chk (by simp), ht.at h.pk (by simp), ht.at h.sc (by simp), h.m1.tf ht (by simp), h.m2.tf ht (by simp), fun j hj => (h.dec j hj).tf ht (by simp) (by simp) (by simp), h.nm.tf ht (by simp)⟩

theorem mid_fin {wq : World} {B : Nat} {r : List Int} {k : Nat} {T D : Nat → Nat} {nv k1 : Value} (h : Mid wq B r k T D nv k1) (e : Value)
    (he : (r.getD k (-1) < 0 ∧ e = .nilIface) ∨ (0 ≤ r.getD k (-1) ∧ ∃ I : Nat, e = .iface 86 (.pointer (some ⟨I, 0, none⟩)) ∧ wq.heap[I]? = some (.cells #[.int .i64 (r.getD k (-1))] 88 (0, 0)))) :
    ∃ w8, (Instr.mapUpdate 73 (.map (some (B + 3))) (.iface 78 (.pointer (some ⟨T k, 0, none⟩))) (.pointer (some ⟨wq.heap.size + 1, 0, none⟩))).run Try.prog ((wq.alloc (.cells #[e] 92)).alloc (.cells #[.pointer (some ⟨wq.heap.size, 0, none⟩)] 94)) = .ok () w8 ∧
      Blt w8 B r (k + 1) T (put D k (wq.heap.size + 1)) nv k1 ∧ ((wq.alloc (.cells #[e] 92)).alloc (.cells #[.pointer (some ⟨wq.heap.size, 0, none⟩)] 94)).grownBy w8 (some (B + 3)) := by
  have hm := (h.alloc (.cells #[e] 92)).alloc (.cells #[.pointer (some ⟨wq.heap.size, 0, none⟩)] 94)
  obtain ⟨w8, h1, h2, h3⟩ := (hm.m2.congr (fun j _ => rfl) (put_lt D k (wq.heap.size + 1))).store hm.nm.names
  rw [put_at] at h1
  have hmap : ∃ es clk, ((wq.alloc (.cells #[e] 92)).alloc (.cells #[.pointer (some ⟨wq.heap.size, 0, none⟩)] 94)).heap[B + 3]? = some (.map es clk) := by
    obtain ⟨es, clk, h, _⟩ := hm.m2
    exact ⟨es, clk, h⟩
  obtain ⟨es, clk, hmap⟩ := hmap
  have ht : TF [] [B + 3] ((wq.alloc (.cells #[e] 92)).alloc (.cells #[.pointer (some ⟨wq.heap.size, 0, none⟩)] 94)) w8 := TF.map hmap h3 (by simp)
  refine ⟨w8, h1, ⟨ht.own hm.names (by simp), ht.own hm.objs (by simp), ht.at hm.chk (by simp), ⟨ht.at hm.pk (by simp), ht.at hm.sc (by simp), hm.m1.tf ht (by simp), h2, ?_⟩, hm.nm.tf ht (by simp)⟩, h3⟩
  intro j hj
  by_cases hjk : j = k
  · subst hjk
    rw [put_at]
    have hd : DecAt ((wq.alloc (.cells #[e] 92)).alloc (.cells #[.pointer (some ⟨wq.heap.size, 0, none⟩)] 94)) r j (wq.heap.size + 1) := by
      refine ⟨wq.heap.size, e, alloc_at (by simp), ?_, ?_⟩
      · rw [alloc_lt (by simp), alloc_at rfl]
      · rcases he with he | ⟨he, I, h4, h5⟩
        · exact Or.inl he
        · have hI := (Array.getElem?_eq_some_iff.1 h5).1
          refine Or.inr ⟨he, I, h4, ?_⟩
          rw [alloc_lt (by simp; omega), alloc_lt hI]
          exact h5
    exact hd.tf ht (by simp) (by simp) (by simp)
  · have := (hm.dec j (by omega)).tf ht (by simp) (by simp) (by simp)
    rw [← put_lt D k (wq.heap.size + 1) j (by omega)]
    exact this

theorem neq_nil80 (w : World) : (binOp .neq 80 .nilIface .nilIface).run Try.prog w = .ok (.bool false) w := by kernel_rfl
theorem neq_iface80 (w : World) (t : TypeId) (x : Value) : (binOp .neq 80 (.iface t x) .nilIface).run Try.prog w = .ok (.bool true) w := by kernel_rfl

theorem bools_snoc (f : Nat → Bool) (k : Nat) : (List.range (k + 1)).map (fun j => Value.bool (f j)) = (List.range k).map (fun j => Value.bool (f j)) ++ [.bool (f k)] := by
  rw [List.range_succ, List.map_append]; rfl

set_option maxHeartbeats 1000000 in
set_option maxRecDepth 100000 in
theorem pubDirect_any (r : List Int) (a : Option Addr) (cap : Nat) (w : World) (h30 : r.length ≤ 30) (hf : Fine r) (hc : Row w a (r.map (Value.int .i64))) :
    Calls Try.prog 31 #[.slice a r.length cap] w fun e w' => ∃ v1 v2, e = .returned (.tuple #[v1, v2]) ∧ LLO w' w.heap.size v1 (dcAll r r.length).2.2 ∧
      w'.ownsRow w.heap.size 4 1 v2 r.length ((List.range r.length).map fun j => Value.bool ((dcAll r r.length).2.1 j)) ∧ Below w.heap.size w w' := by
  have Hf := Lib.hid hf; clear hf
  have Hc := Lib.hid hc; clear hc
  have hmm := @run_makeMap Try.prog
  go_enter Try.func31, Try.ntmps31
  go_wp2_with fail
  simp only [Nat.add_assoc, Nat.reduceAdd]
  rw [show ((((w.alloc (.map #[] 0)).alloc (.cells #[.map (some w.heap.size)] 70)).alloc (.cells #[.pointer (some ⟨w.heap.size + 1, 0, none⟩)] 72)).alloc (.map #[] 0)).alloc
    (.cells #[.pointer (some ⟨w.heap.size + 2, 0, none⟩), .slice none 0 0, .map (some (w.heap.size + 3)), .slice none 0 0] 76) = W5 w from rfl]
  obtain ⟨B, hB⟩ : ∃ B, B = w.heap.size := ⟨_, rfl⟩
  have hblt := W5_blt w r (fun _ => 0) (fun _ => 0)
  have hbel := W5_below w
  have hsz := W5_size w
  rw [← hB] at hblt hbel hsz ⊢
  generalize W5 w = w5 at hblt hbel hsz ⊢
  have HB := Lib.hid hB; clear hB
  have hszl : B + 5 ≤ w5.heap.size := by omega
  clear hsz
  go_loopw [5, 22] (fun nv i wr => ∃ (k : Nat) (T D : Nat → Nat) (k1 : Value), k ≤ r.length ∧ i = .int .i64 k ∧ Blt wr B r k T D nv k1 ∧ Below B w wr ∧ B + 5 ≤ wr.heap.size) (fun _ i _ => r.length - (intOf i).toNat)
  case atStart => exact ⟨0, _, _, _, Nat.zero_le _, rfl, hblt, hbel, hszl⟩
  case round =>
    obtain ⟨k, T, D, k1, hk, rfl, hblt, hbel, hszr⟩ := hrel
    have Hblt := Lib.hid hblt
    obtain ⟨a5, cap5, hv5, hc5, hm5, hrow5⟩ := own_slice hblt.names
    subst hv5
    obtain ⟨a6, cap6, hv6, hc6, hm6, hrow6⟩ := own_slice hblt.objs
    subst hv6
    clear hblt
    have Hrow5 := Lib.hid hrow5; clear hrow5
    have Hrow6 := Lib.hid hrow6; clear hrow6
    have hm5' : cap5 ≤ 9223372036854775807 := by simp only [maxLen] at hm5; omega
    have hm6' : cap6 ≤ 9223372036854775807 := by simp only [maxLen] at hm6; omega
    clear hm5 hm6
    by_cases hlt : k < r.length
    · obtain ⟨b, o, rfl, hx⟩ := (Hc.out.ext (by rw [← HB.out]; exact hbel)).int k hlt
      have hrk := Hf.out k _ (List.getElem?_eq_getElem hlt)
      have hgd : r.getD k (-1) = r[k] := by rw [List.getD_eq_getElem?_getD, List.getElem?_eq_getElem hlt]; rfl
      generalize r[k] = x at hx hrk hgd
      have Hgd := Lib.hid hgd; clear hgd
      obtain ⟨hx1, hx2⟩ := hrk
      go_wp2_with (at_builtin; refine wpList_app1s _ rfl (.tmp 30) (.tmp 32) 77 rfl (B + 5) 78 _ 8 Try.underlying77 Try.info78 rfl _ k _ _ _ rfl rfl (by simp) (Hblt.out.names.alloc _) rfl ?_ ?_ ?_ ?_)
      · unfold maxLen; omega
      · omega
      · first | omega | (simp; omega)
      intro nv w2 hown2 hold2 hg2 _
      have ht2 : TF [78] [] (wr.alloc (.cells #[.int .i64 (k : Int), .nilIface] 82)) w2 := TF.grown (Hblt.out.names.alloc _) hold2 hg2 (by simp)
      have hcell2 : w2.heap[wr.heap.size]? = some (.cells #[.int .i64 (k : Int), .nilIface] 82 (0, 0)) := ht2.at (heap_alloc_new wr _) (by simp)
      have ht2' : TF [78] [] wr w2 := (TF.alloc _ _).trans ht2
      have ht2o := ht2'
      have hb2 : Below B w w2 := below_grown (hbel.alloc (by omega) _) (Hblt.out.names.alloc _) (by omega) (by simp; omega) hg2
      have hsz2 : wr.heap.size + 1 ≤ w2.heap.size := by have := hg2.size; simpa using this
      have Hown2 := Lib.hid hown2; clear hown2
      have Hcell2 := Lib.hid hcell2; clear hcell2
      have Hobj2 := Lib.hid (ht2'.own Hblt.out.objs (by simp))
      have Hchk2 := Lib.hid (ht2'.at Hblt.out.chk (by simp))
      have Hst2 := Lib.hid (Hblt.out.stat.tf ht2' (by simp) (by simp) (by simp))
      have Hnm2 := Lib.hid (Hblt.out.nm.tf ht2' (by simp))
      have c1 : w2.cell? ⟨B + 4, 1, none⟩ = some (.slice a6 k cap6) := cell_of Hchk2.out 1
      have hszr2 : B + 5 ≤ w2.heap.size := by omega
      clear hold2 hg2 ht2 ht2'
      go_wp2_with (at_builtin; refine wpList_app1 _ rfl (.tmp 38) (.tmp 41) 74 rfl (B + 5) 84 _ 16 Try.underlying74 Try.info84 rfl _ k _ _ rfl rfl Hobj2.out rfl ?_ ?_ ?_ ?_)
      · unfold maxLen; omega
      · omega
      · omega
      intro ov w3 hown3 hold3 hg3 _
      have ht3 : TF [84] [] w2 w3 := TF.grown Hobj2.out hold3 hg3 (by simp)
      have hb3 : Below B w w3 := below_grown hb2 Hobj2.out (by omega) (by omega) hg3
      obtain ⟨a8, cap8, hv8, _, _, _⟩ := own_slice hown3
      subst hv8
      have Hown3 := Lib.hid hown3; clear hown3
      have Hchk3 := Lib.hid (ht3.at Hchk2.out (by simp))
      have c2 : w3.cell? ⟨B + 4, 1, none⟩ = some (.slice a6 k cap6) := cell_of Hchk3.out 1
      have f2 : w3.frozen? ⟨B + 4, 1, none⟩ = false := free_of Hchk3.out 1
      obtain ⟨w4, hw4⟩ : ∃ w4, w4 = w3.setCell ⟨B + 4, 1, none⟩ (.slice a8 (k + 1) cap8) := ⟨_, rfl⟩
      have ht4 : TF [76] [] w3 w4 := by rw [hw4]; exact TF.setCell Hchk3.out (by simp) _
      have hb4 : Below B w w4 := by rw [hw4]; exact hb3.setCell (by simp) _
      have hchk4 : w4.heap[B + 4]? = some (.cells #[.pointer (some ⟨B + 2, 0, none⟩), .slice a8 (k + 1) cap8, .map (some (B + 3)), .slice none 0 0] 76 (0, 0)) := by
        rw [hw4]; simpa using setCell_heap (i := 1) Hchk3.out (.slice a8 (k + 1) cap8)
      have ht14 : TF [78, 84, 76] [] wr w4 := (ht2o.mono (by simp) (by simp)).trans ((ht3.mono (by simp) (by simp)).trans (ht4.mono (by simp) (by simp)))
      have hT' : ∀ j, j < k → T j = put T k wr.heap.size j := put_lt T k wr.heap.size
      have hsc4 := (Hblt.out.stat.m1.tf ht14 (by simp)).congr hT'
      obtain ⟨w5, hst5, hs5, hg5⟩ := hsc4.store
      rw [put_at] at hst5
      obtain ⟨es, clk, hm5, _⟩ := hsc4
      have ht5 : TF [] [B] w4 w5 := TF.map hm5 hg5 (by simp)
      have hb5 : Below B w w5 := hb4.trans ⟨hg5.os, hg5.tape, hg5.output, hg5.size, fun q hq => hg5.block q (by have := hb4.size; have := ht14.size; omega) (by simp; omega)⟩
      have ht15 : TF [78, 84, 76] [B] wr w5 := (ht14.mono (by simp) (by simp)).trans (ht5.mono (by simp) (by simp))
      have hmid : Mid w5 B r k (put T k wr.heap.size) D nv (.slice a8 (k + 1) cap8) := by
        have hnmk : Nm w5 B (k + 1) (put T k wr.heap.size) (fun _ => false) := by
          have hold := Hblt.out.nm.tf ht15 (by simp)
          have hlt' : ∀ j, j < k → T j < wr.heap.size := fun j hj => by
            obtain ⟨ty, h, _⟩ := Hblt.out.nm.blk j hj
            exact (Array.getElem?_eq_some_iff.1 h).1
          refine ⟨fun j hj => ?_, fun i j hi hj he => ?_, fun j hj => ?_⟩
          · by_cases hjk : j = k
            · subst hjk
              rw [put_at]
              exact ⟨.nilIface, ht5.at (ht4.at (ht3.at Hcell2.out (by simp)) (by simp)) (by simp), Or.inl ⟨rfl, rfl⟩⟩
            · rw [← hT' j (by omega)]
              exact hold.blk j (by omega)
          · by_cases hik : i = k
            · by_cases hjk : j = k
              · omega
              · subst hik
                rw [put_at, ← hT' j (by omega)] at he
                have := hlt' j (by omega)
                omega
            · by_cases hjk : j = k
              · subst hjk
                rw [put_at, ← hT' i (by omega)] at he
                have := hlt' i (by omega)
                omega
              · rw [← hT' i (by omega), ← hT' j (by omega)] at he
                exact hold.inj i j (by omega) (by omega) he
          · by_cases hjk : j = k
            · subst hjk; rw [put_at]; omega
            · rw [← hT' j (by omega)]; exact hold.lo j (by omega)
        refine ⟨?_, ?_, ht5.at hchk4 (by simp), ht15.at Hblt.out.stat.pk (by simp), ht15.at Hblt.out.stat.sc (by simp), hs5, (Hblt.out.stat.m2.tf ht15 (by simp)).congr hT' (fun _ _ => rfl), fun j hj => ?_, hnmk⟩
        · rw [ptr_put]
          exact ht5.own (ht4.own (ht3.own (by simpa [ptrV] using Hown2.out) (by simp)) (by simp)) (by simp)
        · rw [obj_put]
          exact ht5.own (ht4.own (by simpa [objV] using Hown3.out) (by simp)) (by simp)
        · obtain h := Hblt.out.stat.dec j hj
          exact DecAt.tf h ht15 (by simp) (by simp) (by simp)
      have Hmid := Lib.hid hmid
      have c3 : w4.cell? ⟨B + 4, 0, none⟩ = some (.pointer (some ⟨B + 2, 0, none⟩)) := cell_of hchk4 0
      have c4 : w4.cell? ⟨B + 2, 0, none⟩ = some (.pointer (some ⟨B + 1, 0, none⟩)) := cell_of (ht14.at Hblt.out.stat.pk (by simp)) 0
      have c5 : w4.cell? ⟨B + 1, 0, none⟩ = some (.map (some B)) := cell_of (ht14.at Hblt.out.stat.sc (by simp)) 0
      have c6 : w3.cell? ⟨B + 4, 0, none⟩ = some (.pointer (some ⟨B + 2, 0, none⟩)) := cell_of Hchk3.out 0
      have c7 : w3.cell? ⟨B + 2, 0, none⟩ = some (.pointer (some ⟨B + 1, 0, none⟩)) := cell_of (ht3.at Hst2.out.pk (by simp)) 0
      have c8 : w3.cell? ⟨B + 1, 0, none⟩ = some (.map (some B)) := cell_of (ht3.at Hst2.out.sc (by simp)) 0
      have c9 : w5.cell? ⟨B + 4, 2, none⟩ = some (.map (some (B + 3))) := cell_of hmid.chk 2
      have hszr5 : B + 5 ≤ w5.heap.size := by have := ht15.size; omega
      have Hb5 := Lib.hid hb5
      rw [hw4] at c3 c4 c5 hst5
      clear hw4 hmid hb5 ht15 ht14 ht5 ht4 ht3 ht2o hm5 hg5 hs5 hchk4 hold3 hg3 hT' hb4 hb3
      by_cases hx0 : x < 0
      · obtain ⟨w8, h1, h2, h3⟩ := mid_fin Hmid.out .nilIface (Or.inl ⟨by rw [Hgd.out]; exact hx0, rfl⟩)
        rw [put_at] at h1
        have Hb2 := Lib.hid h2; clear h2
        have Hg3 := Lib.hid h3; clear h3
        go_wp2_with fail
        go_roundw
        case rel =>
          refine ⟨k + 1, _, _, _, by omega, by go_num, Hb2.out, ?_, ?_⟩
          · refine ((Hb5.out.alloc (by omega) _).alloc (by simp; omega) _).trans ⟨Hg3.out.os, Hg3.out.tape, Hg3.out.output, Hg3.out.size, fun q hq => Hg3.out.block q (by simp; omega) (by simp; omega)⟩
          · have := Hg3.out.size; simp at this; omega
        case measure => simp [intOf]; omega
      · obtain ⟨w8, h1, h2, h3⟩ := mid_fin (Hmid.out.alloc (.cells #[.int .i64 x] 88)) (.iface 86 (.pointer (some ⟨w5.heap.size, 0, none⟩))) (Or.inr ⟨by rw [Hgd.out]; omega, w5.heap.size, rfl, by rw [Hgd.out]; exact heap_alloc_new w5 _⟩)
        simp only [World.size_alloc, put_at] at h1
        have c10 : (w5.alloc (.cells #[.int .i64 x] 88)).cell? ⟨B + 4, 2, none⟩ = some (.map (some (B + 3))) := cell_later ((Below.refl _ _).alloc (Nat.le_refl _) _) c9
        have Hb2 := Lib.hid h2; clear h2
        have Hg3 := Lib.hid h3; clear h3
        go_wp2_with fail
        go_roundw
        case rel =>
          refine ⟨k + 1, _, _, _, by omega, by go_num, Hb2.out, ?_, ?_⟩
          · refine (((Hb5.out.alloc (by omega) _).alloc (by simp; omega) _).alloc (by simp; omega) _).trans ⟨Hg3.out.os, Hg3.out.tape, Hg3.out.output, Hg3.out.size, fun q hq => Hg3.out.block q (by simp; omega) (by simp; omega)⟩
          · have := Hg3.out.size; simp at this; omega
        case measure => simp [intOf]; omega
    · obtain rfl : k = r.length := by omega
      have Hchk := Lib.hid (show Chk wr (B + 4) B (.pointer (some ⟨B + 2, 0, none⟩)) (.slice a6 r.length cap6) (.map (some (B + 3))) [] from ⟨_, Hblt.out.chk, LLO.nil _ _⟩)
      go_wp2_with (go_at_call 40; refine (directCycles_any r B (B + 5) T D _ _ h30 Hblt.out.stat Hblt.out.nm Hchk.out Hblt.out.objs hszr Hf.out).mono ?_; rintro e w1 ⟨rfl, hpost⟩)
      obtain ⟨hnm, hck, htf, hbw⟩ := hpost
      have Hnm := Lib.hid hnm; clear hnm
      obtain ⟨cyv, hcb, hll⟩ := hck
      obtain ⟨vs, hvs, hin⟩ := hll
      obtain ⟨ac, capc, hvc, _, _, hrc⟩ := own_slice hvs
      subst hvc
      have Hll : Hid (LLO w1 B (.slice ac (dcAll r r.length).2.2.length capc) (dcAll r r.length).2.2) := ⟨vs, hvs, hin⟩
      clear hvs hin hrc
      have Hcb := Lib.hid hcb; clear hcb
      have Hn1 := Lib.hid (htf.own Hblt.out.names (by simp))
      clear htf
      generalize hmk : (dcAll r r.length).2.1 = mk at Hnm
      generalize hcy : (dcAll r r.length).2.2 = cyl at Hll Hcb
      have Hmk := Lib.hid hmk; clear hmk
      have Hcy := Lib.hid hcy; clear hcy
      have hbw1 : Below B w w1 := hbel.trans hbw
      have hsz1 : B + 5 ≤ w1.heap.size := by have := hbw.size; omega
      have n1 := neq_nil80
      have n2 := neq_iface80
      go_loopw [3, 80] (fun v i wr => ∃ k : Nat, k ≤ r.length ∧ i = .int .i64 k ∧ wr.ownsRow w1.heap.size 4 1 v k ((List.range k).map fun j => Value.bool (mk j)) ∧ Below w1.heap.size w1 wr) (fun _ i _ => r.length - (intOf i).toNat)
      case atStart => exact ⟨0, Nat.zero_le _, rfl, World.ownsRow_nil _ _ _ _, Below.refl _ _⟩
      case round =>
        obtain ⟨k, hk, rfl, hown, hnx⟩ := hrel
        have Hown := Lib.hid hown
        by_cases hlt : k < r.length
        · obtain ⟨b5, o5, rfl, _⟩ := Hrow5.out k (ptrV T k) (by simp [hlt])
          have hx : wr.cell? ⟨b5, o5 + k, none⟩ = some (.pointer (some ⟨T k, 0, none⟩)) := by
            obtain ⟨_, _, e, h⟩ := own_row (own_ext Hn1.out hnx) k (ptrV T k) (by simp [hlt])
            simp at e
            obtain ⟨rfl, rfl⟩ := e
            exact h
          obtain ⟨ty, hty, hcase⟩ := Hnm.out.blk k hlt
          have ht1 : wr.cell? ⟨T k, 1, none⟩ = some ty := cell_later hnx (cell_of hty 1)
          clear hty
          rcases hcase with ⟨hm, rfl⟩ | ⟨hm, tt, x, rfl⟩
          all_goals
            have Hm := Lib.hid hm; clear hm
            go_wp2_with (at_builtin; refine wpList_app1 _ rfl (.tmp 84) (.tmp 90) 25 rfl w1.heap.size 4 _ 1 Try.underlying25 Try.info4 rfl _ k _ _ rfl rfl Hown.out rfl ?_ ?_ ?_ ?_)
            · unfold maxLen; omega
            · omega
            · exact hnx.size
            intro v' w2 hown1 _ hg1 _
            have hnx1 := below_grown hnx Hown.out (Nat.le_refl _) hnx.size hg1
            have Hown1 := Lib.hid hown1; clear hown1
            go_wp2_with fail
            go_roundw
            case rel =>
              refine ⟨k + 1, by omega, by go_num, ?_, hnx1⟩
              rw [bools_snoc, Hm.out]
              exact Hown1.out
            case measure => simp [intOf]; omega
        · obtain rfl : k = r.length := by omega
          have c3 : wr.cell? ⟨B + 4, 3, none⟩ = some (.slice ac cyl.length capc) := cell_later hnx (cell_of Hcb.out 3)
          have hfin1 : LLO wr w.heap.size (.slice ac cyl.length capc) (dcAll r r.length).2.2 := by
            rw [Hcy.out, ← HB.out]; exact Hll.out.ext hnx
          have hfin2 : wr.ownsRow w.heap.size 4 1 u3 r.length ((List.range r.length).map fun j => Value.bool ((dcAll r r.length).2.1 j)) := by
            rw [Hmk.out, ← HB.out]; exact own_base Hown.out (by omega)
          have hfin3 : Below w.heap.size w wr := by rw [← HB.out]; exact hbw1.trans (hnx.mono (by omega))
          have F1 := Lib.hid hfin1
          have F2 := Lib.hid hfin2
          have F3 := Lib.hid hfin3
          clear hfin1 hfin2 hfin3
          go_wp2_with fail
          go_ret2
          exact ⟨_, _, rfl, F1.out, F2.out, F3.out⟩

set_option maxHeartbeats 400000 in
theorem direct_any (r : List Int) (a : Option Addr) (cap : Nat) (w : World) (h30 : r.length ≤ 30) (hf : Fine r) (hc : Row w a (r.map (Value.int .i64))) :
    Calls Try.prog 15 #[.slice a r.length cap] w fun e w' => ∃ v1 v2, e = .returned (.tuple #[v1, v2]) ∧ LLO w' w.heap.size v1 (dcAll r r.length).2.2 ∧
      w'.ownsRow w.heap.size 4 1 v2 r.length ((List.range r.length).map fun j => Value.bool ((dcAll r r.length).2.1 j)) ∧ Below w.heap.size w w' := by
  have Hf := Lib.hid hf; clear hf
  have Hc := Lib.hid hc; clear hc
  go_enter Try.func15, Try.ntmps15
  go_wp2_with (go_at_call 31; refine (pubDirect_any r a cap _ h30 Hf.out Hc.out).mono ?_; rintro e w' ⟨v1, v2, rfl, h1, h2, h3⟩)
  have F1 := Lib.hid h1
  have F2 := Lib.hid h2
  have F3 := Lib.hid h3
  clear h1 h2 h3
  go_wp2_with fail
  go_ret2
  exact ⟨_, _, rfl, F1.out, F2.out, F3.out⟩

end Go.Proofs.Ytnaedpfaeioolaa
