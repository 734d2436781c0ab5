/- The contract of spec.direct: the names that a type has, by value, are added. -/
import Derived.Test.YtnaedpfaeioolaaWi
namespace Go.Proofs.Ytnaedpfaeioolaa
open Go.RowKit
set_option linter.unusedVariables false

/-- Only the list's own row, and what is new, has turned. -/
structure Grw (w w' : World) (v v' : Value) : Prop where
  by_ : w.grownBy w' v.ownBlock
  blk : ∀ k, v'.ownBlock = some k → v.ownBlock = some k ∨ w.heap.size ≤ k

theorem Grw.below {w w' : World} (v : Value) (h : Below w.heap.size w w') : Grw w w' v v := ⟨⟨h.os, h.tape, h.output, h.size, fun i hi _ => h.block i hi⟩, fun _ hk => Or.inl hk⟩
theorem Grw.refl (w : World) (v : Value) : Grw w w v v := Grw.below v (Below.refl _ _)
theorem Grw.alloc (w : World) (v : Value) (o : Obj) : Grw w (w.alloc o) v v := Grw.below v ((Below.refl _ _).alloc (Nat.le_refl _) _)
theorem Grw.size {w w' : World} {v v' : Value} (h : Grw w w' v v') : w.heap.size ≤ w'.heap.size := h.by_.size
theorem Grw.trans {w w1 w2 : World} {v v1 v2 : Value} (h : Grw w w1 v v1) (k : Grw w1 w2 v1 v2) : Grw w w2 v v2 := by
  have hs := h.size
  refine ⟨⟨k.by_.os.trans h.by_.os, k.by_.tape.trans h.by_.tape, k.by_.output.trans h.by_.output, Nat.le_trans hs k.size, fun i hi hne => ?_⟩, fun b hb => ?_⟩
  · rw [k.by_.block i (by omega) ?_, h.by_.block i hi hne]
    intro e
    rcases h.blk i e.symm with h1 | h1
    · exact hne h1.symm
    · omega
  · rcases k.blk b hb with h1 | h1
    · exact h.blk b h1
    · exact Or.inr (by omega)
theorem Grw.cell {w w' : World} {v v' : Value} (h : Grw w w' v v') {b o : Nat} {u : Value} (hb : v.ownBlock ≠ some b) (hc : w.cell? ⟨b, o, none⟩ = some u) : w'.cell? ⟨b, o, none⟩ = some u :=
  cell_keep hc fun hlt => h.by_.block b hlt fun e => hb e.symm
theorem Grw.none {w w' : World} {v v' : Value} (h : Grw w w' v v') (hv : v.ownBlock = none) : Below w.heap.size w w' :=
  ⟨h.by_.os, h.by_.tape, h.by_.output, h.by_.size, fun k hk => h.by_.block k hk (by rw [hv]; simp)⟩

/-- A tree that lies apart from the list's row stays so. -/
theorem Grw.tv {w w' : World} {v v' tv : Value} {t : T} (h : Grw w w' v v') (ht : TV w (fun b => v.ownBlock ≠ some b) tv t) : TV w' (fun b => v'.ownBlock ≠ some b) tv t := by
  refine ((ht.mono (S' := fun b => v.ownBlock ≠ some b ∧ b < w.heap.size) fun b hb hlt => ⟨hb, hlt⟩).keep fun b hb hlt => h.by_.block b hlt fun e => hb.1 e.symm).mono fun b hb _ e => ?_
  rcases h.blk b e with h1 | h1
  · exact hb.1 h1
  · omega

/-- A tree's elements. -/
theorem TV.kids {w : World} {S : Nat → Prop} {k n : Int} {a : Option Addr} {l cap : Nat} {ts : List T} (h : TV w S (.agg #[.int .i64 k, .int .i64 n, .slice a l cap]) (.mk k n ts)) : ∃ ps, Row w a (flat3 ps) ∧ TVs w S ps ts := by
  obtain ⟨k', n', a', cap', ts', ps, e1, e2, _, _, hr, ht⟩ := h.form
  injection e2 with _ _ e4
  subst e4
  simp at e1
  obtain ⟨_, _, rfl, _, _⟩ := e1
  exact ⟨ps, hr, ht⟩

def ints (l : List Nat) : List Int := l.map Int.ofNat
theorem ints_append (a b : List Nat) : ints (a ++ b) = ints a ++ ints b := by simp [ints]

/-- The names that a type has, by value. -/
def dirL : T → List Nat
  | .mk k n es => if k = 1 then [n.toNat] else if 3 ≤ k ∧ k ≤ 6 then es.flatMap dirL else []
theorem dirL_name (n : Int) (es : List T) : dirL (.mk 1 n es) = [n.toNat] := by rw [dirL]; simp
theorem dirL_row (k n : Int) (es : List T) (h : 3 ≤ k ∧ k ≤ 6) : dirL (.mk k n es) = es.flatMap dirL := by rw [dirL, if_neg (by omega), if_pos h]
theorem dirL_none (k n : Int) (es : List T) (h : k = 0 ∨ k = 2) : dirL (.mk k n es) = [] := by rw [dirL, if_neg (by omega), if_neg (by omega)]

def DLoop (w : World) (B : Nat) (v : Value) (xs : List Int) (ts : List T) (vs i : Value) (wr : World) : Prop :=
  ∃ k : Nat, k ≤ ts.length ∧ i = .int .i64 k ∧ wr.ownsRow B 3 1 vs (xs ++ ints ((ts.take k).flatMap dirL)).length ((xs ++ ints ((ts.take k).flatMap dirL)).map (Value.int .i64)) ∧ Grw w wr v vs

theorem take_len (ts : List T) (k : Nat) : ((ts.take k).flatMap dirL).length ≤ (ts.flatMap dirL).length := by
  have h : ts = ts.take k ++ ts.drop k := (List.take_append_drop k ts).symm
  have h2 : (ts.flatMap dirL).length = ((ts.take k).flatMap dirL).length + ((ts.drop k).flatMap dirL).length := by
    conv => lhs; rw [h]
    rw [List.flatMap_append, List.length_append]
  omega

set_option maxHeartbeats 2000000 in
set_option maxRecDepth 100000 in
theorem direct_any (N : Nat) (t : T) : Ok N t → ∀ (w : World) (B : Nat) (v tv : Value) (xs : List Int), w.ownsRow B 3 1 v xs.length (xs.map (Value.int .i64)) → B ≤ w.heap.size → xs.length + (dirL t).length ≤ 100000 → TV w (fun b => v.ownBlock ≠ some b) tv t →
    Calls Try.prog 43 #[tv, v] w fun e w' => ∃ v', e = .returned v' ∧ w'.ownsRow B 3 1 v' (xs ++ ints (dirL t)).length ((xs ++ ints (dirL t)).map (Value.int .i64)) ∧ Grw w w' v v' := by
  induction t using T.ind with
  | _ k n ts ih =>
    intro hok w B v tv xs hown hB hlen hv
    obtain ⟨_, _, _, hk0, hk6, hl3, hn1, _, hokes⟩ := hok
    obtain ⟨k', n', a, cap, ts', ps, rfl, e, hcap, hcm, hrow, htv⟩ := hv.form
    injection e with e1 e2 e3
    subst e1 e2 e3
    rename_i ha3
    clear ha3
    have Ih := Lib.hid ih; clear ih
    have Hok := Lib.hid hokes; clear hokes
    have Hv := Lib.hid hv; clear hv hrow htv
    have Hn1 := Lib.hid hn1; clear hn1
    have Hown := Lib.hid hown
    obtain ⟨va, vc, rfl, _, _, _⟩ := own_slice hown
    clear hown
    have hcm' : cap ≤ 9223372036854775807 := by simpa [maxLen] using hcm
    clear hcm
    have Hg1 := Lib.hid (fun o : Obj => Grw.alloc w (.slice va xs.length vc) o)
    rcases (show k = 1 ∨ (k = 0 ∨ k = 2) ∨ 3 ≤ k by omega) with rfl | hk | hk
    · rw [dirL_name] at hlen ⊢
      obtain ⟨hn0, hnN⟩ := Hn1.out rfl
      obtain ⟨m, rfl⟩ := Int.eq_ofNat_of_zero_le hn0
      simp at hlen
      go_enter Try.func43, Try.ntmps43
      go_wp2_with (at_builtin; refine wpList_app1s _ rfl (.tmp 11) (.tmp 14) 22 rfl B 3 _ 8 Try.underlying22 Try.info3 rfl _ xs.length _ _ _ rfl rfl (by simp) (Hown.out.alloc _) rfl ?_ ?_ ?_ ?_)
      · simp only [maxLen]; omega
      · omega
      · first | omega | (simp; omega)
      intro v' w1 g1 _ g3 g4
      have hfin : w1.ownsRow B 3 1 v' (xs ++ ints [(m : Int).toNat]).length ((xs ++ ints [(m : Int).toNat]).map (Value.int .i64)) := by simpa [ints] using g1
      have Hfin := Lib.hid hfin
      have Hg := Lib.hid ((Hg1.out _).trans ⟨g3, by simpa using g4⟩)
      clear g1 g3 g4 hfin
      go_wp2_with fail
      go_ret
      exact ⟨_, rfl, Hfin.out, Hg.out⟩
    · rw [dirL_none _ _ _ hk]
      rcases hk with rfl | rfl
      all_goals
        go_enter Try.func43, Try.ntmps43
        go_wp2_with fail
        go_ret
        exact ⟨_, rfl, by simpa [ints] using Hown.out.alloc _, Hg1.out _⟩
    · rw [dirL_row _ _ _ ⟨hk, hk6⟩] at hlen ⊢
      have hlt2 := take_len ts
      have Hlt2 := Lib.hid hlt2; clear hlt2
      have key : ∀ (k' : Int), 3 ≤ k' → k' ≤ 6 → k = k' → True := fun _ _ _ _ => trivial
      rcases (show k = 3 ∨ k = 4 ∨ k = 5 ∨ k = 6 by omega) with rfl | rfl | rfl | rfl
      all_goals
        clear key
        go_enter Try.func43, Try.ntmps43
        go_wp2_with fail
        generalize hW0 : World.alloc w _ = W0
        have Hg0 := Lib.hid (show Grw w W0 (.slice va xs.length vc) (.slice va xs.length vc) by rw [← hW0]; exact Grw.alloc w _ _)
        have Hown0 := Lib.hid (show W0.ownsRow B 3 1 (.slice va xs.length vc) xs.length (xs.map (Value.int .i64)) by rw [← hW0]; exact Hown.out.alloc _)
        clear hW0
        go_loopw [1, 24] (DLoop w B (.slice va xs.length vc) xs ts) (fun _ i _ => ts.length - (intOf i).toNat)
        case atStart => unfold DLoop; exact ⟨0, Nat.zero_le _, rfl, by simpa [ints] using Hown0.out, Hg0.out⟩
        case round =>
          obtain ⟨k, hkl, rfl, hown, hgr⟩ := hrel
          have hlk := Hlt2.out k
          have hlen2 : (xs ++ ints ((ts.take k).flatMap dirL)).length ≤ 100000 := by rw [List.length_append]; simp only [ints, List.length_map]; omega
          have hadd : ∀ l, ((ts.take k).flatMap dirL).length + l ≤ (ts.flatMap dirL).length → (xs ++ ints ((ts.take k).flatMap dirL)).length + l ≤ 100000 := by intro l hl; rw [List.length_append]; simp only [ints, List.length_map]; omega
          have Hadd := Lib.hid hadd; clear hadd
          obtain ⟨ys, hys⟩ : ∃ ys, ys = xs ++ ints ((ts.take k).flatMap dirL) := ⟨_, rfl⟩
          rw [← hys] at hown hlen2 Hadd
          have Hys := Lib.hid hys; clear hys hlk
          have Hownr := Lib.hid hown
          obtain ⟨vr, vrc, hvr, _, _, _⟩ := own_slice hown
          subst hvr
          clear hown
          have Hgr := Lib.hid hgr; clear hgr
          by_cases hlt : k < ts.length
          · have htvr := Hgr.out.tv Hv.out
            obtain ⟨ps2, hr2, hl2, he2⟩ := htvr.kids
            have hkp : k < ps2.length := by rw [hl2]; exact hlt
            have e1 : ps2[k]? = some ps2[k] := List.getElem?_eq_getElem hkp
            have hte := he2 k _ _ e1 (List.getElem?_eq_getElem hlt)
            have hmem := List.getElem_mem hlt
            have htake : (ts.take (k + 1)).flatMap dirL = (ts.take k).flatMap dirL ++ dirL ts[k] := by rw [List.take_succ_eq_append_getElem hlt, List.flatMap_append]; simp
            have hlk1 := Hlt2.out (k + 1)
            rw [htake] at hlk1
            obtain ⟨b, o, rfl, x0, x1, x2⟩ := row3 hr2 e1
            obtain ⟨ke, ne, ae, ce, tse, pse, hpe, hte2, _⟩ := hte.form3
            rw [hpe] at x0 x1 x2 hte
            generalize ts[k] = te at hte hmem htake hlk1
            have Hte := Lib.hid hte; clear hte hte2 hpe e1
            have Htake := Lib.hid htake; clear htake
            have hcall := Ih.out te hmem (Hok.out te hmem) (wr.alloc (.cells #[.int .i64 ke, .int .i64 ne, .slice ae tse.length ce] 45)) B (.slice vr ys.length vrc) (.agg #[.int .i64 ke, .int .i64 ne, .slice ae tse.length ce])
              ys (Hownr.out.alloc _) (by have := Hgr.out.size; simp; omega) (Hadd.out _ (by rw [List.length_append] at hlk1; exact hlk1)) (Hte.out.ext ((Below.refl _ _).alloc (Nat.le_refl _) _))
            have Hcall := Lib.hid hcall
            clear hcall hr2 he2 hl2 hlk1 htvr
            go_wp2_with (go_at_call 43; refine Hcall.out.mono ?_; rintro e w2 ⟨v', rfl, ho2, hg2⟩)
            have ho3 : w2.ownsRow B 3 1 v' (xs ++ ints ((ts.take (k + 1)).flatMap dirL)).length ((xs ++ ints ((ts.take (k + 1)).flatMap dirL)).map (Value.int .i64)) := by rw [Htake.out, ints_append, ← List.append_assoc, ← Hys.out]; exact ho2
            have Ho3 := Lib.hid ho3
            have Hg3 := Lib.hid (Hgr.out.trans ((Grw.alloc wr _ _).trans hg2))
            clear ho2 ho3 hg2
            go_roundw
            case rel => unfold DLoop; exact ⟨k + 1, by omega, by go_num, Ho3.out, Hg3.out⟩
            case measure => simp [intOf]; omega
          · have hke : k = ts.length := by omega
            subst hke
            go_wp2_with fail
            go_ret
            have hy : ys = xs ++ ints (ts.flatMap dirL) := by rw [Hys.out, List.take_of_length_le (Nat.le_refl _)]
            exact ⟨_, rfl, by rw [← hy]; exact Hownr.out, Hgr.out⟩

end Go.Proofs.Ytnaedpfaeioolaa
