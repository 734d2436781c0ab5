/- The contract of made: the package's type of a tree. Printed by gen_Vj.py. -/
import Derived.Test.YtnaedpfaeioolaaVi
import Derived.Deep.DrawnRows
namespace Go.Proofs.Ytnaedpfaeioolaa
open Go.RowKit
set_option linter.unusedVariables false
attribute [local go_sem ↓] Go.wp_at_zero Go.wp_at_succ

theorem TyV.form0 {al : Nat → Bool} {NB : Nat → Nat} {w : World} {S : Nat → Prop} {v : Value} {t : T} (h : TyV al NB w S 0 v t) : ∃ ty x, v = .iface ty x := by
  generalize he : (0 : TypeId) = e at h
  cases h with
  | named => exact ⟨_, _, rfl⟩
  | other => exact ⟨_, _, rfl⟩
  | basic => exact ⟨_, _, rfl⟩
  | elem e b v t he' => subst he; simp at he'
  | arr => exact ⟨_, _, rfl⟩
  | row => exact ⟨_, _, rfl⟩

/-- The elements that a type of the call's own has so far. -/
structure KX (al : Nat → Bool) (NB : Nat → Nat) (w : World) (B : Nat) (rty ety : TypeId) (sv : Value) (xs : List Value) (ts : List T) : Prop where
  own : w.ownsRow B rty 1 sv ts.length xs
  kid : ∀ (i : Nat) (x : Value) (t : T), xs[i]? = some x → ts[i]? = some t → TyV al NB w (fun b => B ≤ b ∧ sv.ownBlock ≠ some b) ety x t

section
variable {al : Nat → Bool} {NB : Nat → Nat} {w : World} {B : Nat} {rty ety : TypeId} {sv : Value} {xs : List Value} {ts : List T}
theorem KX.nil (al : Nat → Bool) (NB : Nat → Nat) (w : World) (B : Nat) (rty ety : TypeId) : KX al NB w B rty ety (.slice none 0 0) [] [] := ⟨World.ownsRow_nil _ _ _ _, by intro i x t h; simp at h⟩
theorem KX.ext {w' : World} (h : KX al NB w B rty ety sv xs ts) (hb : Below w.heap.size w w') : KX al NB w' B rty ety sv xs ts := ⟨own_ext h.own hb, fun i x t hx ht => (h.kid i x t hx ht).ext hb⟩
theorem KX.low (h : KX al NB w B rty ety sv xs ts) {a : Addr} (ha : a.block < B) (u : Value) : KX al NB (w.setCell a u) B rty ety sv xs ts := by
  have hk : ∀ b, B ≤ b → (w.setCell a u).heap[b]? = w.heap[b]? := fun b hb => Below.heap_setCell _ _ _ _ (by omega)
  exact ⟨own_keep h.own fun g hg => hk g (h.own.lt g hg).1, fun i x t hx ht => (h.kid i x t hx ht).keep fun b hb _ => hk b hb.1⟩
theorem KX.snoc {w2 w3 : World} {sv' x : Value} {t : T} (h : KX al NB w B rty ety sv xs ts) (hB : B ≤ w.heap.size) (hb : Below w.heap.size w w2)
    (ht : TyV al NB w2 (fun b => w.heap.size ≤ b) ety x t)
    (g1 : w3.ownsRow B rty 1 sv' (ts.length + 1) (xs ++ [x])) (g3 : w2.grownBy w3 sv.ownBlock) (g4 : ∀ k, sv'.ownBlock = some k → sv.ownBlock = some k ∨ w2.heap.size ≤ k) : KX al NB w3 B rty ety sv' (xs ++ [x]) (ts ++ [t]) := by
  have hl : xs.length = ts.length := by simpa using h.own.1
  have hlt : ∀ k, sv.ownBlock = some k → k < w.heap.size := fun k hk => (h.own.lt k hk).2
  refine ⟨by simpa using g1, fun i y u hy hu => ?_⟩
  have key : TyV al NB w2 (fun b => B ≤ b ∧ sv.ownBlock ≠ some b) ety y u := by
    by_cases hi : i < xs.length
    · rw [List.getElem?_append_left hi] at hy
      rw [List.getElem?_append_left (by omega)] at hu
      exact (h.kid i y u hy hu).ext hb
    · have hip : i = xs.length := by
        have := (List.getElem?_eq_some_iff.1 hy).1
        simp at this
        omega
      subst hip
      rw [List.getElem?_append_right (by omega)] at hy
      rw [List.getElem?_append_right (by omega), hl] at hu
      simp at hy hu
      subst hy hu
      refine ht.mono fun b hb1 _ => ⟨by omega, fun e1 => ?_⟩
      have := hlt b e1
      omega
  refine ((key.mono (S' := fun b => (B ≤ b ∧ sv.ownBlock ≠ some b) ∧ b < w2.heap.size) fun b hb1 h2 => ⟨hb1, h2⟩).keep (w' := w3) fun b hb1 h2 => ?_).mono fun b hb1 _ => ⟨hb1.1.1, fun e1 => ?_⟩
  · exact g3.block b h2 fun e1 => hb1.1.2 e1.symm
  · rcases g4 b e1 with h1 | h1
    · exact hb1.1.2 h1
    · omega
theorem KX.done {k : Int} (n : Int) {ity bty : Nat} {O : Nat} {S : Nat → Prop} (h : KX al NB w B rty ety sv xs ts) (hk : (k, ity, bty, rty, ety) ∈ rowTab) (hb : w.heap[O]? = some (.cells #[sv] bty (0, 0))) (hO : S O) (hS : ∀ b, B ≤ b → S b) :
    TyV al NB w S 0 (.iface ity (.pointer (some ⟨O, 0, none⟩))) (.mk k n ts) :=
  .row k n ity bty rty ety O sv xs ts hk hb hO (own_base h.own (Nat.zero_le _)) (fun g hg => hS g (h.own.lt g hg).1) fun i x t hx ht => (h.kid i x t hx ht).mono fun b hb _ => hS b hb.1
end

/-- What the loop over a tree's elements keeps. -/
def ELoop (al : Nat → Bool) (NB : Nat → Nat) (w : World) (B O bty rty ety : Nat) (ts : List T) (i : Value) (wr : World) : Prop :=
  ∃ (k : Nat) (sv : Value) (xs : List Value), k ≤ ts.length ∧ i = .int .i64 k ∧ wr.heap[O]? = some (.cells #[sv] bty (0, 0)) ∧ KX al NB wr (O + 1) rty ety sv xs (ts.take k) ∧ Below B w wr ∧ O + 1 ≤ wr.heap.size

theorem Try.info124 : (Try.prog.info? 124).map (fun i => (i.zero, i.size, i.bytes)) = some (some (.pointer none), 1, 8) := by kernel_rfl
theorem Try.info134 : (Try.prog.info? 134).map (fun i => (i.zero, i.size, i.bytes)) = some (some (.pointer none), 1, 8) := by kernel_rfl
theorem Try.info80 : (Try.prog.info? 80).map (fun i => (i.zero, i.size, i.bytes)) = some (some .nilIface, 1, 16) := by kernel_rfl

set_option maxHeartbeats 4000000 in
set_option maxRecDepth 100000 in
theorem made_any (al : Nat → Bool) (NB : Nat → Nat) (N : Nat) (t : T) : Ok N t → ∀ (w : World) (v : Value) (ta : Option Addr) (tc : Nat), N ≤ tc → tc ≤ 9223372036854775807 → TV w Any v t → Row w ta ((List.range N).map (nv al NB)) →
    Calls Try.prog 41 #[v, .slice ta N tc] w fun e w' => ∃ tv, e = .returned tv ∧ TyV al NB w' (fun b => w.heap.size ≤ b) 0 tv t ∧ Below w.heap.size w w' := by
  induction t using T.ind with
  | _ k n ts ih =>
    intro hok w v ta tc htc1 htc2 hv htr
    obtain ⟨_, _, _, hk0, hk6, hl3, hn1, ha3, hokes⟩ := hok
    obtain ⟨k', n', a, cap, ts', ps, rfl, e, hcap, hcm, hrow, htv⟩ := hv.form
    injection e with e1 e2 e3
    subst e1 e2 e3
    have Ih := Lib.hid ih; clear ih
    have Hok := Lib.hid hokes; clear hokes
    have Hrow := Lib.hid hrow; clear hrow
    have Htv := Lib.hid htv; clear htv hv
    have Htr := Lib.hid htr; clear htr
    have Hn1 := Lib.hid hn1; clear hn1
    have Ha3 := Lib.hid ha3; clear ha3
    have hcm' : cap ≤ 9223372036854775807 := by simpa [maxLen] using hcm
    clear hcm
    obtain ⟨B, hB⟩ : ∃ B, B = w.heap.size := ⟨_, rfl⟩
    have hbel1 : ∀ o : Obj, Below w.heap.size w (w.alloc o) := fun o => (Below.refl _ _).alloc (Nat.le_refl _) _
    have hbel2 : ∀ o o' : Obj, Below w.heap.size w ((w.alloc o).alloc o') := fun o o' => ((Below.refl _ _).alloc (Nat.le_refl _) _).alloc (by simp) _
    have Hbel1 := Lib.hid hbel1; clear hbel1
    have Hbel2 := Lib.hid hbel2; clear hbel2
    have key : ∀ (W2 : World) (ty : TypeId), W2 = (w.alloc (.cells #[.int .i64 k, .int .i64 n, .slice a ts.length cap] 55)).alloc (.cells #[.slice none 0 0] ty) →
        W2.heap[B + 1]? = some (.cells #[.slice none 0 0] ty (0, 0)) ∧ Below B w W2 ∧ B + 2 ≤ W2.heap.size ∧ W2.cell? ⟨B, 2, none⟩ = some (.slice a ts.length cap) := by
      rintro W2 ty rfl
      refine ⟨alloc_at (by simp [hB]), by rw [hB]; exact ((Below.refl _ _).alloc (Nat.le_refl _) _).alloc (by simp) _, by simp [hB], ?_⟩
      rw [cell_of (b := B) (c := #[.int .i64 k, .int .i64 n, .slice a ts.length cap]) (e := 55) (fr := (0, 0)) (by rw [alloc_lt (by simp [hB]), alloc_at hB])]; rfl
    have Key := Lib.hid key; clear key
    have HB := Lib.hid hB; clear hB
    rcases (show k = 0 ∨ k = 1 ∨ k = 2 ∨ k = 3 ∨ k = 4 ∨ k = 5 ∨ k = 6 by omega) with rfl | rfl | rfl | rfl | rfl | rfl | rfl
    · go_enter Try.func41, Try.ntmps41
      go_wp2_with fail
      go_ret
      exact ⟨_, rfl, .basic _ _ _ (alloc_at (by simp)) (by simp), Hbel2.out _ _⟩
    · obtain ⟨hn0, hnN⟩ := Hn1.out rfl
      obtain ⟨m, rfl⟩ := Int.eq_ofNat_of_zero_le hn0
      obtain ⟨b, o, rfl, x0⟩ := Htr.out m (nv al NB m) (by rw [List.getElem?_map, List.getElem?_range (by omega)]; rfl)
      have x1 := fun o' => cell_later (Hbel1.out o') x0
      have hfin : TyV al NB (w.alloc (.cells #[.int .i64 1, .int .i64 m, .slice a ts.length cap] 55)) (fun b => w.heap.size ≤ b) 0 (nv al NB m) (.mk 1 m ts) := .named (m : Int) ts
      have Hfin := Lib.hid hfin; clear hfin
      clear x0
      go_enter Try.func41, Try.ntmps41
      go_wp2_with fail
      go_ret
      exact ⟨_, rfl, Hfin.out, Hbel1.out _⟩
    · go_enter Try.func41, Try.ntmps41
      go_wp2_with fail
      go_ret
      exact ⟨_, rfl, .other _ _ _, Hbel2.out _ _⟩
    · have h1 : ts.length = 1 := Ha3.out rfl
      obtain ⟨te, rfl⟩ : ∃ te, ts = [te] := List.length_eq_one_iff.1 h1
      have hp1 : 0 < ps.length := by rw [Htv.out.1]; simp
      have e1 : ps[0]? = some ps[0] := List.getElem?_eq_getElem hp1
      have hte := Htv.out.2 0 _ _ e1 rfl
      obtain ⟨b, o, rfl, x0, x1, x2⟩ := row3 Hrow.out e1
      obtain ⟨ke, ne, ae, ce, tse, pse, hpe, hte2, _⟩ := hte.form3
      rw [hpe] at x0 x1 x2 hte
      simp only [Nat.zero_mul, Nat.add_zero] at x0 x1 x2
      have y0 := fun o' => cell_later (Hbel1.out o') x0
      have y1 := fun o' => cell_later (Hbel1.out o') x1
      have y2 := fun o' => cell_later (Hbel1.out o') x2
      have Hte := Lib.hid hte
      clear x0 x1 x2 hte hte2 hpe e1 h1
      have hcap1 : (1 : Int) ≤ cap := by simp at hcap; omega
      simp only [List.length_singleton] at *
      go_enter Try.func41, Try.ntmps41
      go_wp2_with (go_at_call 41; refine (Ih.out te (by simp) (Hok.out te (by simp)) _ (.agg #[.int .i64 ke, .int .i64 ne, .slice ae tse.length ce]) _ _ htc1 htc2 (Hte.out.ext (Hbel1.out _)) (Htr.out.ext (Hbel1.out _))).mono ?_; rintro e w2 ⟨v', rfl, htv2, hb2⟩; obtain ⟨ty2, p2, rfl⟩ := htv2.form0)
      go_ret
      have hs := hb2.size
      simp at hs
      refine ⟨_, rfl, .arr _ _ _ (.elem 119 w2.heap.size _ _ (Or.inl rfl) (alloc_at rfl) (by omega) ((htv2.ext ((Below.refl _ _).alloc (Nat.le_refl _) _)).mono fun b hb _ => by simp at hb; omega)), ?_⟩
      exact ((Hbel1.out _).trans (hb2.mono (by simp))).alloc (by omega) _
    · go_enter Try.func41, Try.ntmps41
      go_wp2_with fail
      generalize hW : World.alloc (World.alloc w _) _ = W2
      have hk := Key.out W2 123 hW.symm
      clear hW
      rw [← HB.out]
      obtain ⟨hout, hbelW, hszW, c2⟩ := hk
      go_wp2_with fail
      go_loopw [44] (ELoop al NB w B (B + 1) 123 124 126 ts) (fun i _ => ts.length - (intOf i).toNat)
      case atStart => unfold ELoop; exact ⟨0, _, [], Nat.zero_le _, rfl, hout, KX.nil _ _ _ _ _ _, hbelW, hszW⟩
      case round =>
        obtain ⟨k, sv, qs, hk, rfl, hO, hkids, hbw, hszr⟩ := hrel
        have HO := Lib.hid hO; clear hO
        have hlen : (ts.take k).length = k := by rw [List.length_take]; omega
        have hown := hkids.own
        rw [hlen] at hown
        have Hkids := Lib.hid hkids; clear hkids
        have Hown := Lib.hid hown
        have Hlen := Lib.hid hlen; clear hlen
        obtain ⟨asv, csv, hsv, _, _, _⟩ := own_slice hown
        subst hsv
        clear hown
        have hbw' : Below w.heap.size w wr := by rw [← HB.out]; exact hbw
        by_cases hlt : k < ts.length
        · have hkp : k < ps.length := by rw [Htv.out.1]; exact hlt
          have e1 : ps[k]? = some ps[k] := List.getElem?_eq_getElem hkp
          have e2 : ts[k]? = some ts[k] := List.getElem?_eq_getElem hlt
          have hte := (Htv.out.2 k _ _ e1 e2).ext hbw'
          have hmem := List.getElem_mem hlt
          have htake : ts.take (k + 1) = ts.take k ++ [ts[k]] := List.take_succ_eq_append_getElem hlt
          obtain ⟨b, o, rfl, x0, x1, x2⟩ := row3 (Hrow.out.ext hbw') e1
          obtain ⟨ke, ne, ae, ce, tse, pse, hpe, hte2, _⟩ := hte.form3
          rw [hpe] at x0 x1 x2 hte
          generalize ts[k] = te at hte hmem htake
          have Hte := Lib.hid hte; clear hte hte2 hpe e1 e2
          have Hmem := Lib.hid hmem; clear hmem
          have Htake := Lib.hid htake; clear htake
          have cO : wr.cell? ⟨B + 1, 0, none⟩ = some (.slice asv k csv) := cell_of HO.out 0
          have hA := fun (o : Obj) => cell_later ((Below.refl wr.heap.size wr).alloc (Nat.le_refl _) o) cO
          go_wp2_with fail
          obtain ⟨E, hE⟩ : ∃ E, E = wr.heap.size := ⟨_, rfl⟩
          obtain ⟨wA, hwA⟩ : ∃ wA, wA = wr.alloc (.cells #[.int .i64 ke, .int .i64 ne, .slice ae tse.length ce] 55) := ⟨_, rfl⟩
          have hEb : wA.heap[E]? = some (.cells #[.int .i64 ke, .int .i64 ne, .slice ae tse.length ce] 55 (0, 0)) := by rw [hwA, hE]; exact alloc_at rfl
          have hbA : Below wr.heap.size wr wA := by rw [hwA]; exact (Below.refl _ _).alloc (Nat.le_refl _) _
          have hszA : E + 1 = wA.heap.size := by rw [hwA, hE]; simp
          rw [← hwA, ← hE]
          have cOA := cell_later hbA cO
          have x3 : wA.cell? ⟨E, 0, none⟩ = some (.int .i64 ke) := cell_of hEb 0
          have x4 : wA.cell? ⟨E, 1, none⟩ = some (.int .i64 ne) := cell_of hEb 1
          have x5 : wA.cell? ⟨E, 2, none⟩ = some (.slice ae tse.length ce) := cell_of hEb 2
          have HteA := Lib.hid ((Hte.out.ext hbA).ext (show Below wA.heap.size wA wA.drew from (Below.refl _ _).drew))
          have HtrA := Lib.hid (((Htr.out.ext hbw').ext hbA).ext (show Below wA.heap.size wA wA.drew from (Below.refl _ _).drew))
          have HownA := Lib.hid ((own_ext Hown.out hbA).drew)
          have HcOA : Hid (wA.drew.cell? ⟨B + 1, 0, none⟩ = some (.slice asv k csv)) := Lib.hid cOA
          have hk30 : k ≤ 9223372036854775806 := by omega
          have hszB : B + 2 ≤ wA.heap.size := by have := hbA.size; omega
          have HOA := Lib.hid (below_ext hbA HO.out)
          have HbA := Lib.hid hbA
          have HszA := Lib.hid hszA
          have HEw := Lib.hid hE
          clear hA hEb hwA hE cO x0 x1 x2 hbA hszA
          go_region_law (first
            | (go_simp; refine (Ih.out te Hmem.out (Hok.out te Hmem.out) wA.drew (.agg #[.int .i64 ke, .int .i64 ne, .slice ae tse.length ce]) _ _ htc1 htc2 HteA.out HtrA.out).mono ?_; rintro e w2 ⟨v', rfl, htv2, hb2⟩; obtain ⟨ty2, p2, rfl⟩ := htv2.form0; have cO2 := cell_later hb2 HcOA.out; have cO2a := fun (o : Obj) => cell_later ((Below.refl w2.heap.size w2).alloc (Nat.le_refl _) o) cO2; have cO2b := fun (o o' : Obj) => cell_later (((Below.refl w2.heap.size w2).alloc (Nat.le_refl _) o).alloc (by simp) o') cO2; have own2 := own_ext HownA.out hb2; have hs2 : wA.heap.size ≤ w2.heap.size := hb2.size; have HO2 := Lib.hid (below_ext hb2 (show wA.drew.heap[B + 1]? = _ from HOA.out)))
            | (refine step_app (w2.alloc (.cells #[.iface ty2 p2] 126)) rfl (.tmp 52) (.tmp 58) 121 rfl (B + 2) 124 (.pointer none) 1 8 Try.underlying121 Try.info124 rfl (by decide) (.slice asv k csv) k qs [.pointer (some ⟨w2.heap.size, 0, none⟩)] (w2.heap.size + 1) rfl rfl (by simp) (own2.alloc _) rfl (by simp [Value.oneCell']) (by simp only [maxLen]; omega) (by omega) (by simp; omega) ?_; intro sv' wB g1 g2 g3 g4; obtain ⟨asv', csv', rfl, _, _, _⟩ := own_slice g1; have HO3 := Lib.hid (low_grown (own2.alloc _) g3 (by omega) (below_ext ((Below.refl w2.heap.size w2).alloc (Nat.le_refl _) _) HO2.out)); have cO3 := cell_of HO3.out 0; have fO3 := free_of HO3.out 0))
          all_goals
            have HO4 := Lib.hid (setCell_heap (i := 0) HO3.out (.slice asv' (k + 1) csv'))
            have hbW : Below wA.drew.heap.size wA.drew (w2.alloc (.cells #[.iface ty2 p2] 126)) := hb2.alloc (show wA.heap.size ≤ w2.heap.size from hs2) _
            have hlow : Below B wr (wB.setCell ⟨B + 1, 0, none⟩ (.slice asv' (k + 1) csv')) := by
              refine Below.setCell ?_ (show B ≤ B + 1 by omega) _
              refine Below.trans (Below.trans ((HbA.out.mono (by omega)).drew) (hbW.mono (by show B ≤ wA.heap.size; omega))) ((below_low (own2.alloc _) g3 (by simp; omega)).mono (by omega))
            have Hlow := Lib.hid hlow
            have htW : TyV al NB (w2.alloc (.cells #[.iface ty2 p2] 126)) (fun b => wA.drew.heap.size ≤ b) 126 (.pointer (some ⟨w2.heap.size, 0, none⟩)) te := .elem 126 w2.heap.size _ _ (by decide) (alloc_at rfl) (show wA.heap.size ≤ w2.heap.size from hs2) (htv2.ext ((Below.refl _ _).alloc (Nat.le_refl _) _))
            have Hk5 := Lib.hid (KX.low (KX.snoc (Hkids.out.ext (HbA.out.drew)) (show B + 1 + 1 ≤ wA.drew.heap.size from hszB) hbW htW (by rw [Hlen.out]; exact g1) g3 (by first | exact g4 | simpa using g4)) (a := ⟨B + 1, 0, none⟩) (by show B + 1 < B + 1 + 1; omega) (.slice asv' (k + 1) csv'))
            have hs5 := g3.size
            have hs6 : (wB.setCell ⟨B + 1, 0, none⟩ (.slice asv' (k + 1) csv')).heap.size = wB.heap.size := by simp [World.setCell]
            have hs7 : w2.heap.size ≤ (w2.alloc (.cells #[.iface ty2 p2] 126)).heap.size := by simp
            clear hlow htW hbW
            go_wp2_with fail
            go_roundw
            case rel =>
              unfold ELoop
              refine ⟨k + 1, .slice asv' (k + 1) csv', qs ++ [.pointer (some ⟨w2.heap.size, 0, none⟩)], by omega, by go_num, by simpa using HO4.out, ?_, hbw.trans Hlow.out, by omega⟩
              rw [Htake.out]
              exact Hk5.out
            case measure => simp [intOf]; omega
        · have hke : k = ts.length := by omega
          subst hke
          have hk9 := Hkids.out
          rw [List.take_of_length_le (Nat.le_refl _)] at hk9
          have hfin := KX.done (k := 4) n (ity := 120) (bty := 123) (S := fun b => w.heap.size ≤ b) hk9 (by decide) HO.out (by have := HB.out; omega) (by intro b hb; have := HB.out; omega)
          have Hfin := Lib.hid hfin; clear hfin hk9
          go_wp2_with fail
          go_ret
          exact ⟨_, rfl, Hfin.out, hbw'⟩
    · go_enter Try.func41, Try.ntmps41
      go_wp2_with fail
      generalize hW : World.alloc (World.alloc w _) _ = W2
      have hk := Key.out W2 129 hW.symm
      clear hW
      rw [← HB.out]
      obtain ⟨hout, hbelW, hszW, c2⟩ := hk
      go_wp2_with fail
      go_loopw [71] (ELoop al NB w B (B + 1) 129 80 0 ts) (fun i _ => ts.length - (intOf i).toNat)
      case atStart => unfold ELoop; exact ⟨0, _, [], Nat.zero_le _, rfl, hout, KX.nil _ _ _ _ _ _, hbelW, hszW⟩
      case round =>
        obtain ⟨k, sv, qs, hk, rfl, hO, hkids, hbw, hszr⟩ := hrel
        have HO := Lib.hid hO; clear hO
        have hlen : (ts.take k).length = k := by rw [List.length_take]; omega
        have hown := hkids.own
        rw [hlen] at hown
        have Hkids := Lib.hid hkids; clear hkids
        have Hown := Lib.hid hown
        have Hlen := Lib.hid hlen; clear hlen
        obtain ⟨asv, csv, hsv, _, _, _⟩ := own_slice hown
        subst hsv
        clear hown
        have hbw' : Below w.heap.size w wr := by rw [← HB.out]; exact hbw
        by_cases hlt : k < ts.length
        · have hkp : k < ps.length := by rw [Htv.out.1]; exact hlt
          have e1 : ps[k]? = some ps[k] := List.getElem?_eq_getElem hkp
          have e2 : ts[k]? = some ts[k] := List.getElem?_eq_getElem hlt
          have hte := (Htv.out.2 k _ _ e1 e2).ext hbw'
          have hmem := List.getElem_mem hlt
          have htake : ts.take (k + 1) = ts.take k ++ [ts[k]] := List.take_succ_eq_append_getElem hlt
          obtain ⟨b, o, rfl, x0, x1, x2⟩ := row3 (Hrow.out.ext hbw') e1
          obtain ⟨ke, ne, ae, ce, tse, pse, hpe, hte2, _⟩ := hte.form3
          rw [hpe] at x0 x1 x2 hte
          generalize ts[k] = te at hte hmem htake
          have Hte := Lib.hid hte; clear hte hte2 hpe e1 e2
          have Hmem := Lib.hid hmem; clear hmem
          have Htake := Lib.hid htake; clear htake
          have cO : wr.cell? ⟨B + 1, 0, none⟩ = some (.slice asv k csv) := cell_of HO.out 0
          have hA := fun (o : Obj) => cell_later ((Below.refl wr.heap.size wr).alloc (Nat.le_refl _) o) cO
          go_wp2_with fail
          obtain ⟨E, hE⟩ : ∃ E, E = wr.heap.size := ⟨_, rfl⟩
          obtain ⟨wA, hwA⟩ : ∃ wA, wA = wr.alloc (.cells #[.int .i64 ke, .int .i64 ne, .slice ae tse.length ce] 55) := ⟨_, rfl⟩
          have hEb : wA.heap[E]? = some (.cells #[.int .i64 ke, .int .i64 ne, .slice ae tse.length ce] 55 (0, 0)) := by rw [hwA, hE]; exact alloc_at rfl
          have hbA : Below wr.heap.size wr wA := by rw [hwA]; exact (Below.refl _ _).alloc (Nat.le_refl _) _
          have hszA : E + 1 = wA.heap.size := by rw [hwA, hE]; simp
          rw [← hwA, ← hE]
          have cOA := cell_later hbA cO
          have x3 : wA.cell? ⟨E, 0, none⟩ = some (.int .i64 ke) := cell_of hEb 0
          have x4 : wA.cell? ⟨E, 1, none⟩ = some (.int .i64 ne) := cell_of hEb 1
          have x5 : wA.cell? ⟨E, 2, none⟩ = some (.slice ae tse.length ce) := cell_of hEb 2
          have HteA := Lib.hid ((Hte.out.ext hbA).ext (show Below wA.heap.size wA wA.drew from (Below.refl _ _).drew))
          have HtrA := Lib.hid (((Htr.out.ext hbw').ext hbA).ext (show Below wA.heap.size wA wA.drew from (Below.refl _ _).drew))
          have HownA := Lib.hid ((own_ext Hown.out hbA).drew)
          have HcOA : Hid (wA.drew.cell? ⟨B + 1, 0, none⟩ = some (.slice asv k csv)) := Lib.hid cOA
          have hk30 : k ≤ 9223372036854775806 := by omega
          have hszB : B + 2 ≤ wA.heap.size := by have := hbA.size; omega
          have HOA := Lib.hid (below_ext hbA HO.out)
          have HbA := Lib.hid hbA
          have HszA := Lib.hid hszA
          have HEw := Lib.hid hE
          clear hA hEb hwA hE cO x0 x1 x2 hbA hszA
          go_region_law (first
            | (go_simp; refine (Ih.out te Hmem.out (Hok.out te Hmem.out) wA.drew (.agg #[.int .i64 ke, .int .i64 ne, .slice ae tse.length ce]) _ _ htc1 htc2 HteA.out HtrA.out).mono ?_; rintro e w2 ⟨v', rfl, htv2, hb2⟩; obtain ⟨ty2, p2, rfl⟩ := htv2.form0; have cO2 := cell_later hb2 HcOA.out; have cO2a := fun (o : Obj) => cell_later ((Below.refl w2.heap.size w2).alloc (Nat.le_refl _) o) cO2; have cO2b := fun (o o' : Obj) => cell_later (((Below.refl w2.heap.size w2).alloc (Nat.le_refl _) o).alloc (by simp) o') cO2; have own2 := own_ext HownA.out hb2; have hs2 : wA.heap.size ≤ w2.heap.size := hb2.size; have HO2 := Lib.hid (below_ext hb2 (show wA.drew.heap[B + 1]? = _ from HOA.out)))
            | (refine step_app w2 rfl (.tmp 79) (.tmp 83) 96 rfl (B + 2) 80 (.nilIface) 1 16 Try.underlying96 Try.info80 rfl (by decide) (.slice asv k csv) k qs [.iface ty2 p2] (w2.heap.size) rfl rfl (by simp) own2 rfl (by simp [Value.oneCell']) (by simp only [maxLen]; omega) (by omega) (by omega) ?_; intro sv' wB g1 g2 g3 g4; obtain ⟨asv', csv', rfl, _, _, _⟩ := own_slice g1; have HO3 := Lib.hid (low_grown own2 g3 (by omega) (HO2.out)); have cO3 := cell_of HO3.out 0; have fO3 := free_of HO3.out 0))
          all_goals
            have HO4 := Lib.hid (setCell_heap (i := 0) HO3.out (.slice asv' (k + 1) csv'))
            have hbW : Below wA.drew.heap.size wA.drew w2 := hb2
            have hlow : Below B wr (wB.setCell ⟨B + 1, 0, none⟩ (.slice asv' (k + 1) csv')) := by
              refine Below.setCell ?_ (show B ≤ B + 1 by omega) _
              refine Below.trans (Below.trans ((HbA.out.mono (by omega)).drew) (hbW.mono (by show B ≤ wA.heap.size; omega))) ((below_low own2 g3 (by omega)).mono (by omega))
            have Hlow := Lib.hid hlow
            have htW : TyV al NB w2 (fun b => wA.drew.heap.size ≤ b) 0 (.iface ty2 p2) te := htv2
            have Hk5 := Lib.hid (KX.low (KX.snoc (Hkids.out.ext (HbA.out.drew)) (show B + 1 + 1 ≤ wA.drew.heap.size from hszB) hbW htW (by rw [Hlen.out]; exact g1) g3 (by first | exact g4 | simpa using g4)) (a := ⟨B + 1, 0, none⟩) (by show B + 1 < B + 1 + 1; omega) (.slice asv' (k + 1) csv'))
            have hs5 := g3.size
            have hs6 : (wB.setCell ⟨B + 1, 0, none⟩ (.slice asv' (k + 1) csv')).heap.size = wB.heap.size := by simp [World.setCell]
            have hs7 : w2.heap.size ≤ w2.heap.size := by simp
            clear hlow htW hbW
            go_wp2_with fail
            go_roundw
            case rel =>
              unfold ELoop
              refine ⟨k + 1, .slice asv' (k + 1) csv', qs ++ [.iface ty2 p2], by omega, by go_num, by simpa using HO4.out, ?_, hbw.trans Hlow.out, by omega⟩
              rw [Htake.out]
              exact Hk5.out
            case measure => simp [intOf]; omega
        · have hke : k = ts.length := by omega
          subst hke
          have hk9 := Hkids.out
          rw [List.take_of_length_le (Nat.le_refl _)] at hk9
          have hfin := KX.done (k := 5) n (ity := 127) (bty := 129) (S := fun b => w.heap.size ≤ b) hk9 (by decide) HO.out (by have := HB.out; omega) (by intro b hb; have := HB.out; omega)
          have Hfin := Lib.hid hfin; clear hfin hk9
          go_wp2_with fail
          go_ret
          exact ⟨_, rfl, Hfin.out, hbw'⟩
    · go_enter Try.func41, Try.ntmps41
      go_wp2_with fail
      generalize hW : World.alloc (World.alloc w _) _ = W2
      have hk := Key.out W2 133 hW.symm
      clear hW
      rw [← HB.out]
      obtain ⟨hout, hbelW, hszW, c2⟩ := hk
      go_wp2_with fail
      go_loopw [96] (ELoop al NB w B (B + 1) 133 134 135 ts) (fun i _ => ts.length - (intOf i).toNat)
      case atStart => unfold ELoop; exact ⟨0, _, [], Nat.zero_le _, rfl, hout, KX.nil _ _ _ _ _ _, hbelW, hszW⟩
      case round =>
        obtain ⟨k, sv, qs, hk, rfl, hO, hkids, hbw, hszr⟩ := hrel
        have HO := Lib.hid hO; clear hO
        have hlen : (ts.take k).length = k := by rw [List.length_take]; omega
        have hown := hkids.own
        rw [hlen] at hown
        have Hkids := Lib.hid hkids; clear hkids
        have Hown := Lib.hid hown
        have Hlen := Lib.hid hlen; clear hlen
        obtain ⟨asv, csv, hsv, _, _, _⟩ := own_slice hown
        subst hsv
        clear hown
        have hbw' : Below w.heap.size w wr := by rw [← HB.out]; exact hbw
        by_cases hlt : k < ts.length
        · have hkp : k < ps.length := by rw [Htv.out.1]; exact hlt
          have e1 : ps[k]? = some ps[k] := List.getElem?_eq_getElem hkp
          have e2 : ts[k]? = some ts[k] := List.getElem?_eq_getElem hlt
          have hte := (Htv.out.2 k _ _ e1 e2).ext hbw'
          have hmem := List.getElem_mem hlt
          have htake : ts.take (k + 1) = ts.take k ++ [ts[k]] := List.take_succ_eq_append_getElem hlt
          obtain ⟨b, o, rfl, x0, x1, x2⟩ := row3 (Hrow.out.ext hbw') e1
          obtain ⟨ke, ne, ae, ce, tse, pse, hpe, hte2, _⟩ := hte.form3
          rw [hpe] at x0 x1 x2 hte
          generalize ts[k] = te at hte hmem htake
          have Hte := Lib.hid hte; clear hte hte2 hpe e1 e2
          have Hmem := Lib.hid hmem; clear hmem
          have Htake := Lib.hid htake; clear htake
          have cO : wr.cell? ⟨B + 1, 0, none⟩ = some (.slice asv k csv) := cell_of HO.out 0
          have hA := fun (o : Obj) => cell_later ((Below.refl wr.heap.size wr).alloc (Nat.le_refl _) o) cO
          go_wp2_with fail
          obtain ⟨E, hE⟩ : ∃ E, E = wr.heap.size := ⟨_, rfl⟩
          obtain ⟨wA, hwA⟩ : ∃ wA, wA = wr.alloc (.cells #[.int .i64 ke, .int .i64 ne, .slice ae tse.length ce] 55) := ⟨_, rfl⟩
          have hEb : wA.heap[E]? = some (.cells #[.int .i64 ke, .int .i64 ne, .slice ae tse.length ce] 55 (0, 0)) := by rw [hwA, hE]; exact alloc_at rfl
          have hbA : Below wr.heap.size wr wA := by rw [hwA]; exact (Below.refl _ _).alloc (Nat.le_refl _) _
          have hszA : E + 1 = wA.heap.size := by rw [hwA, hE]; simp
          rw [← hwA, ← hE]
          have cOA := cell_later hbA cO
          have x3 : wA.cell? ⟨E, 0, none⟩ = some (.int .i64 ke) := cell_of hEb 0
          have x4 : wA.cell? ⟨E, 1, none⟩ = some (.int .i64 ne) := cell_of hEb 1
          have x5 : wA.cell? ⟨E, 2, none⟩ = some (.slice ae tse.length ce) := cell_of hEb 2
          have HteA := Lib.hid ((Hte.out.ext hbA).ext (show Below wA.heap.size wA wA.drew from (Below.refl _ _).drew))
          have HtrA := Lib.hid (((Htr.out.ext hbw').ext hbA).ext (show Below wA.heap.size wA wA.drew from (Below.refl _ _).drew))
          have HownA := Lib.hid ((own_ext Hown.out hbA).drew)
          have HcOA : Hid (wA.drew.cell? ⟨B + 1, 0, none⟩ = some (.slice asv k csv)) := Lib.hid cOA
          have hk30 : k ≤ 9223372036854775806 := by omega
          have hszB : B + 2 ≤ wA.heap.size := by have := hbA.size; omega
          have HOA := Lib.hid (below_ext hbA HO.out)
          have HbA := Lib.hid hbA
          have HszA := Lib.hid hszA
          have HEw := Lib.hid hE
          clear hA hEb hwA hE cO x0 x1 x2 hbA hszA
          go_region_law (first
            | (go_simp; refine (Ih.out te Hmem.out (Hok.out te Hmem.out) wA.drew (.agg #[.int .i64 ke, .int .i64 ne, .slice ae tse.length ce]) _ _ htc1 htc2 HteA.out HtrA.out).mono ?_; rintro e w2 ⟨v', rfl, htv2, hb2⟩; obtain ⟨ty2, p2, rfl⟩ := htv2.form0; have cO2 := cell_later hb2 HcOA.out; have cO2a := fun (o : Obj) => cell_later ((Below.refl w2.heap.size w2).alloc (Nat.le_refl _) o) cO2; have cO2b := fun (o o' : Obj) => cell_later (((Below.refl w2.heap.size w2).alloc (Nat.le_refl _) o).alloc (by simp) o') cO2; have own2 := own_ext HownA.out hb2; have hs2 : wA.heap.size ≤ w2.heap.size := hb2.size; have HO2 := Lib.hid (below_ext hb2 (show wA.drew.heap[B + 1]? = _ from HOA.out)))
            | (refine step_app (w2.alloc (.cells #[.iface ty2 p2] 135)) rfl (.tmp 104) (.tmp 110) 131 rfl (B + 2) 134 (.pointer none) 1 8 Try.underlying131 Try.info134 rfl (by decide) (.slice asv k csv) k qs [.pointer (some ⟨w2.heap.size, 0, none⟩)] (w2.heap.size + 1) rfl rfl (by simp) (own2.alloc _) rfl (by simp [Value.oneCell']) (by simp only [maxLen]; omega) (by omega) (by simp; omega) ?_; intro sv' wB g1 g2 g3 g4; obtain ⟨asv', csv', rfl, _, _, _⟩ := own_slice g1; have HO3 := Lib.hid (low_grown (own2.alloc _) g3 (by omega) (below_ext ((Below.refl w2.heap.size w2).alloc (Nat.le_refl _) _) HO2.out)); have cO3 := cell_of HO3.out 0; have fO3 := free_of HO3.out 0))
          all_goals
            have HO4 := Lib.hid (setCell_heap (i := 0) HO3.out (.slice asv' (k + 1) csv'))
            have hbW : Below wA.drew.heap.size wA.drew (w2.alloc (.cells #[.iface ty2 p2] 135)) := hb2.alloc (show wA.heap.size ≤ w2.heap.size from hs2) _
            have hlow : Below B wr (wB.setCell ⟨B + 1, 0, none⟩ (.slice asv' (k + 1) csv')) := by
              refine Below.setCell ?_ (show B ≤ B + 1 by omega) _
              refine Below.trans (Below.trans ((HbA.out.mono (by omega)).drew) (hbW.mono (by show B ≤ wA.heap.size; omega))) ((below_low (own2.alloc _) g3 (by simp; omega)).mono (by omega))
            have Hlow := Lib.hid hlow
            have htW : TyV al NB (w2.alloc (.cells #[.iface ty2 p2] 135)) (fun b => wA.drew.heap.size ≤ b) 135 (.pointer (some ⟨w2.heap.size, 0, none⟩)) te := .elem 135 w2.heap.size _ _ (by decide) (alloc_at rfl) (show wA.heap.size ≤ w2.heap.size from hs2) (htv2.ext ((Below.refl _ _).alloc (Nat.le_refl _) _))
            have Hk5 := Lib.hid (KX.low (KX.snoc (Hkids.out.ext (HbA.out.drew)) (show B + 1 + 1 ≤ wA.drew.heap.size from hszB) hbW htW (by rw [Hlen.out]; exact g1) g3 (by first | exact g4 | simpa using g4)) (a := ⟨B + 1, 0, none⟩) (by show B + 1 < B + 1 + 1; omega) (.slice asv' (k + 1) csv'))
            have hs5 := g3.size
            have hs6 : (wB.setCell ⟨B + 1, 0, none⟩ (.slice asv' (k + 1) csv')).heap.size = wB.heap.size := by simp [World.setCell]
            have hs7 : w2.heap.size ≤ (w2.alloc (.cells #[.iface ty2 p2] 135)).heap.size := by simp
            clear hlow htW hbW
            go_wp2_with fail
            go_roundw
            case rel =>
              unfold ELoop
              refine ⟨k + 1, .slice asv' (k + 1) csv', qs ++ [.pointer (some ⟨w2.heap.size, 0, none⟩)], by omega, by go_num, by simpa using HO4.out, ?_, hbw.trans Hlow.out, by omega⟩
              rw [Htake.out]
              exact Hk5.out
            case measure => simp [intOf]; omega
        · have hke : k = ts.length := by omega
          subst hke
          have hk9 := Hkids.out
          rw [List.take_of_length_le (Nat.le_refl _)] at hk9
          have hfin := KX.done (k := 6) n (ity := 130) (bty := 133) (S := fun b => w.heap.size ≤ b) hk9 (by decide) HO.out (by have := HB.out; omega) (by intro b hb; have := HB.out; omega)
          have Hfin := Lib.hid hfin; clear hfin hk9
          go_wp2_with fail
          go_ret
          exact ⟨_, rfl, Hfin.out, hbw'⟩

end Go.Proofs.Ytnaedpfaeioolaa
