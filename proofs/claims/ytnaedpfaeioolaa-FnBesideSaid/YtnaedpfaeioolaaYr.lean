/- The contracts of spec.Reached, spec.OnCycle and spec.Reaches. -/
import Derived.Test.YtnaedpfaeioolaaYq
import Derived.Test.YtnaedpfaeioolaaYh
import Derived.Test.YtnaedpfaeioolaaXg
namespace Go.Proofs.Ytnaedpfaeioolaa
open Go.RowKit
set_option linter.unusedVariables false

/-- What a list of lists says a declaration contains. -/
def gF (gs : List (List Nat)) (n : Nat) : List Nat := gs.getD n []
abbrev noM : Nat → Bool := fun _ => false

structure GsOk (gs : List (List Nat)) : Prop where
  uni : ∀ n, n < gs.length → Uni gs.length (gF gs n)

theorem Row.at {w : World} {a : Option Addr} {ys : List Value} (h : Row w a ys) {j : Nat} (hj : j < ys.length) : ∃ b o, a = some ⟨b, o, none⟩ ∧ w.cell? ⟨b, o + j, none⟩ = some ys[j] := h j _ (List.getElem?_eq_getElem hj)

/-- One list of a list of lists. -/
theorem LL.at {w : World} {a : Option Addr} {n cap : Nat} {gs : List (List Nat)} (h : LL w (.slice a n cap) (gs.map ints)) {i : Nat} (hi : i < gs.length) :
    ∃ (b o : Nat) (x : Option Addr) (c : Nat), a = some ⟨b, o, none⟩ ∧ w.cell? ⟨b, o + i, none⟩ = some (.slice x (gF gs i).length c) ∧ (gF gs i).length ≤ c ∧ c ≤ maxLen ∧ Row w x ((ints (gF gs i)).map (Value.int .i64)) := by
  obtain ⟨vs, ⟨a', cap', e, h1, h2, h3⟩, h4, h5⟩ := h
  simp at e
  obtain ⟨rfl, _, rfl⟩ := e
  have hl : vs.length = gs.length := by simpa using h4
  obtain ⟨b, o, rfl, hc⟩ := h3.at (j := i) (by omega)
  have hg : (gs.map ints)[i]? = some (ints (gF gs i)) := by
    rw [List.getElem?_map, List.getElem?_eq_getElem hi]
    simp [gF, List.getD_eq_getElem?_getD, hi]
  obtain ⟨x, c, e, q1, q2, q3⟩ := h5 i _ _ (List.getElem?_eq_getElem (by omega)) hg
  rw [e] at hc
  have hli : (ints (gF gs i)).length = (gF gs i).length := by simp [ints]
  rw [hli] at hc q1
  exact ⟨b, o, x, c, rfl, hc, q1, q2, q3⟩

/-- How far the search has come. -/
structure QInv (gs : List (List Nat)) (from_ : Nat) (R W : List Nat) : Prop where
  uni : Uni gs.length R
  wlt : ∀ x ∈ W, x < gs.length
  rR : ∀ x ∈ R, Rch (gF gs) noM from_ x
  rW : ∀ x ∈ W, Rch (gF gs) noM from_ x
  c0 : ∀ y ∈ gF gs from_, y ∈ R ∨ y ∈ W
  cR : ∀ x ∈ R, ∀ y ∈ gF gs x, y ∈ R ∨ y ∈ W

theorem QInv.done {gs : List (List Nat)} {from_ : Nat} {R : List Nat} (h : QInv gs from_ R []) : ∀ x, x ∈ R ↔ Rch (gF gs) noM from_ x := by
  intro x
  refine ⟨h.rR x, fun hr => ?_⟩
  have key : ∀ a b, Rch (gF gs) noM a b → (a = from_ ∨ a ∈ R) → b ∈ R := by
    intro a b hab
    induction hab with
    | one _ hb =>
      rintro (rfl | ha)
      · rcases h.c0 _ hb with h1 | h1
        · exact h1
        · simp at h1
      · rcases h.cR _ ha _ hb with h1 | h1
        · exact h1
        · simp at h1
    | more _ hb _ ih =>
      rintro (rfl | ha)
      · rcases h.c0 _ hb with h1 | h1
        · exact ih (Or.inr h1)
        · simp at h1
      · rcases h.cR _ ha _ hb with h1 | h1
        · exact ih (Or.inr h1)
        · simp at h1
  exact key from_ x hr (Or.inl rfl)

theorem QInv.old {gs : List (List Nat)} {from_ n : Nat} {R W : List Nat} (h : QInv gs from_ R (n :: W)) (hn : n ∈ R) : QInv gs from_ R W := by
  refine ⟨h.uni, fun x hx => h.wlt x (by simp [hx]), h.rR, fun x hx => h.rW x (by simp [hx]), fun y hy => ?_, fun x hx y hy => ?_⟩
  · rcases h.c0 y hy with h1 | h1
    · exact Or.inl h1
    · simp at h1
      rcases h1 with rfl | h1
      · exact Or.inl hn
      · exact Or.inr h1
  · rcases h.cR x hx y hy with h1 | h1
    · exact Or.inl h1
    · simp at h1
      rcases h1 with rfl | h1
      · exact Or.inl hn
      · exact Or.inr h1

theorem QInv.new {gs : List (List Nat)} (hg : GsOk gs) {from_ n : Nat} {R W : List Nat} (h : QInv gs from_ R (n :: W)) (hn : n ∉ R) : QInv gs from_ (R ++ [n]) (W ++ gF gs n) := by
  have hnl := h.wlt n (by simp)
  have hrn := h.rW n (by simp)
  refine ⟨h.uni.snoc hnl hn, fun x hx => ?_, fun x hx => ?_, fun x hx => ?_, fun y hy => ?_, fun x hx y hy => ?_⟩
  · rcases List.mem_append.1 hx with hx | hx
    · exact h.wlt x (by simp [hx])
    · exact (hg.uni n hnl).lt x hx
  · simp at hx
    rcases hx with hx | rfl
    · exact h.rR x hx
    · exact hrn
  · rcases List.mem_append.1 hx with hx | hx
    · exact h.rW x (by simp [hx])
    · exact hrn.trans (.one rfl hx)
  · rcases h.c0 y hy with h1 | h1
    · exact Or.inl (by simp [h1])
    · simp at h1
      rcases h1 with rfl | h1
      · exact Or.inl (by simp)
      · exact Or.inr (by simp [h1])
  · simp at hx
    rcases hx with hx | rfl
    · rcases h.cR x hx y hy with h1 | h1
      · exact Or.inl (by simp [h1])
      · simp at h1
        rcases h1 with rfl | h1
        · exact Or.inl (by simp)
        · exact Or.inr (by simp [h1])
    · exact Or.inr (by simp [hy])

def QLoop (gs : List (List Nat)) (from_ : Nat) (w : World) (gk : Nat) (ov wv : Value) (wr : World) : Prop :=
  ∃ (R W : List Nat) (g : Nat), wr.ownsRow w.heap.size 3 1 ov R.length ((ints R).map (Value.int .i64)) ∧ QOwn wr w.heap.size g wv ((ints W).map (Value.int .i64)) ∧ ov.ownBlock ≠ some g ∧ Below w.heap.size w wr ∧ QInv gs from_ R W ∧ gk = (gs.length - R.length) * 101 + W.length ∧ gk ≤ 20000

def RPost (gs : List (List Nat)) (from_ : Nat) (w : World) (e : Ending) (w' : World) : Prop :=
  ∃ (v : Value) (R : List Nat), e = .returned v ∧ w'.ownsRow w.heap.size 3 1 v R.length ((ints R).map (Value.int .i64)) ∧ Below w.heap.size w w' ∧ Uni gs.length R ∧ ∀ x, x ∈ R ↔ Rch (gF gs) noM from_ x

theorem ints_one (xs : List Nat) : ∀ u ∈ (ints xs).map (Value.int .i64), u.oneCell' = true := by
  intro u hu
  obtain ⟨x, _, rfl⟩ := List.mem_map.1 hu
  rfl
theorem ints_len (xs : List Nat) : ((ints xs).map (Value.int .i64)).length = xs.length := by simp [ints]

set_option maxHeartbeats 2000000 in
set_option maxRecDepth 100000 in
theorem reached_any (gs : List (List Nat)) (hg : GsOk gs) (hN : gs.length ≤ 100) (w : World) (ga : Option Addr) (gc : Nat) (hgc1 : gs.length ≤ gc) (hgc2 : gc ≤ 9223372036854775807) (hll : LL w (.slice ga gs.length gc) (gs.map ints)) (from_ : Nat) (hf : from_ < gs.length) :
    Calls Try.prog 39 #[.slice ga gs.length gc, .int .i64 (from_ : Int)] w (RPost gs from_ w) := by
  have Hll := Lib.hid hll
  obtain ⟨gb, go, xa, xc, rfl, z0, hz1, hz2, hz3⟩ := hll.at hf
  have Hz3 := Lib.hid (hz3.ext ((Below.refl w.heap.size w).alloc (Nat.le_refl _) (.cells #[] 3)))
  have hz0 := fun o : Obj => cell_later ((Below.refl w.heap.size w).alloc (Nat.le_refl _) o) z0
  have hfu := hg.uni from_ hf
  have hfl := hfu.len
  have Hg := Lib.hid hg
  have hq0 : QInv gs from_ [] (gF gs from_) := ⟨⟨List.nodup_nil, by simp⟩, hfu.lt, by simp, fun x hx => .one rfl hx, fun y hy => Or.inr hy, by simp⟩
  have Hq0 := Lib.hid hq0
  have hxl := ints_len (gF gs from_)
  have Hxl := Lib.hid hxl
  have hzz2 : xc ≤ 9223372036854775807 := by simpa [maxLen] using hz2
  have HqE : Hid (QOwn (w.alloc (.cells #[] 3)) w.heap.size w.heap.size (.slice (some ⟨w.heap.size, 0, none⟩) 0 0) []) := ⟨0, 0, #[], rfl, Nat.le_refl _, alloc_at rfl, Nat.le_refl _, Nat.zero_le _, by simp, by intro j u h; simp at h⟩
  generalize hLe : gF gs from_ = L0 at z0 hz0 hz1 Hz3 hfl Hq0 Hxl
  clear hll hz3 hz2 hfu hg hq0 hxl z0 hLe
  go_enter Try.func39, Try.ntmps39
  go_wp2_with (at_builtin; refine wpList_appq _ rfl (.tmp 8) (.tmp 12) 22 rfl Try.underlying22 Try.info3 w.heap.size w.heap.size _ [] rfl HqE.out xa L0.length xc rfl ((ints L0).map (Value.int .i64)) Hxl.out Hz3.out (ints_one _) (by simp) (by simp; omega) ?_)
  intro wv w1 g q1 q2 q3
  have hbw : Below w.heap.size w w1 := by
    refine ((Below.refl w.heap.size w).alloc (Nat.le_refl _) (.cells #[] 3)).grown q2 (by simp) fun k hk => ?_
    simp at hk; omega
  have hstart : QLoop gs from_ w (gs.length * 101 + L0.length) (.slice none 0 0) wv w1 :=
    ⟨[], L0, g, World.ownsRow_nil _ _ _ _, by simpa using q1, by simp [Value.ownBlock], hbw, Hq0.out, by simp, by omega⟩
  have Hstart := Lib.hid hstart
  obtain ⟨_, _, _, hwv, _⟩ := q1.ex
  simp only [ints_len] at hwv
  subst hwv
  clear q1 q2 q3 hbw hstart HqE
  go_wp2_with fail
  go_loopg [5, 6] (gs.length * 101 + L0.length) (fun gk ov wv wr => QLoop gs from_ w gk ov wv wr)
  case atStart => exact Hstart.out
  case round =>
    obtain ⟨R, W, g, hown, hq, hdis, hbw, hqi, hgk, hgk2⟩ := hrel
    clear Hstart hz0
    have hRl := hqi.uni.len
    have Hown := Lib.hid hown
    obtain ⟨ra, rc, rfl, _, _, _⟩ := own_slice hown
    obtain ⟨qo, qcap, cur, hwv, hq1, hq2, hq3, hq4, hq5, hq6⟩ := hq.ex
    rw [ints_len] at hwv hq3
    subst hwv
    have Hq := Lib.hid hq
    have Hdis := Lib.hid hdis
    have Hbw := Lib.hid hbw
    have Hqi := Lib.hid hqi
    have hqcap : qcap ≤ 9223372036854775807 := by simpa [maxLen] using hq4
    cases W with
    | nil =>
      simp only [List.length_nil] at hgk hq3
      have hdone := Lib.hid hqi.done
      clear hown hq hdis hbw hqi hq2 hq6 hgk
      go_wp2_with fail
      go_ret
      exact ⟨_, R, rfl, Hown.out, Hbw.out, Hqi.out.uni, hdone.out⟩
    | cons n W =>
      simp only [List.length_cons] at hgk hq3
      have hc0 : wr.cell? ⟨g, qo, none⟩ = some (.int .i64 (n : Int)) := by
        have := hq6 0 (.int .i64 (n : Int)) (by simp [ints])
        simp [World.cell?, hq2] at this ⊢
        exact this
      have hnl := hqi.wlt n (by simp)
      have hhas := has_own hown n
      have hWl : W.length ≤ 20000 := by omega
      have hqg := hq.lt
      have hqn : ∀ (v : Value) (o c : Nat), v = .slice (some ⟨g, o, none⟩) W.length c → ((o = qo + 1 ∧ c + 1 = qcap) ∨ (o = qo ∧ c = 0 ∧ W.length = 0)) → QOwn wr w.heap.size g v ((ints W).map (Value.int .i64)) := by
        rintro v o c rfl hoc
        refine ⟨o, c, cur, by rw [ints_len], hq1, hq2, by rw [ints_len]; omega, by simp only [maxLen]; omega, by omega, fun j u hj => ?_⟩
        rcases hoc with ⟨rfl, _⟩ | ⟨rfl, _, h0⟩
        · have := hq6 (j + 1) u (by simpa [ints] using hj)
          rw [show qo + 1 + j = qo + (j + 1) from by omega]
          exact this
        · have h1 := (List.getElem?_eq_some_iff.1 hj).1
          rw [ints_len] at h1
          omega
      have Hqn := Lib.hid hqn
      obtain ⟨gb', go', xa, xc, e0, y0, hy1, hy2, hy3⟩ := (Hll.out.ext hbw).at hnl
      simp at e0
      obtain ⟨rfl, rfl⟩ := e0
      have Hy3 := Lib.hid hy3
      have hnu := (Hg.out.uni n hnl)
      have hnul := hnu.len
      have hxl := ints_len (gF gs n)
      have Hxl := Lib.hid hxl
      by_cases hin : n ∈ R
      · rw [decide_eq_true hin] at hhas
        have Hhas := Lib.hid hhas
        have Hqi2 := Lib.hid (hqi.old hin)
        have Hgk := Lib.hid hgk
        clear hown hq hdis hbw hqi hq2 hq6 hgk hhas hin hqn hy3 hxl hnu
        rcases (show qcap = 1 ∨ (1 : Int) < qcap by omega) with hcap1 | hcap1
        · subst hcap1
          have hW0 : W = [] := List.eq_nil_of_length_eq_zero (by omega)
          subst hW0
          go_wp2_with (go_at_call 38; refine Hhas.out.mono ?_; rintro e w' ⟨rfl, rfl⟩)
          go_roundg (gk - 1)
          case rel =>
            unfold QLoop
            refine ⟨R, [], g, Hown.out, Hqn.out _ _ _ rfl (by simp), Hdis.out, Hbw.out, Hqi2.out, ?_, by omega⟩
            have := Hgk.out
            simp at this ⊢
            omega
          case measure => have := Hgk.out; omega
        · go_wp2_with (go_at_call 38; refine Hhas.out.mono ?_; rintro e w' ⟨rfl, rfl⟩)
          go_roundg (gk - 1)
          case rel =>
            unfold QLoop
            refine ⟨R, W, g, Hown.out, Hqn.out _ _ _ rfl (by omega), Hdis.out, Hbw.out, Hqi2.out, ?_, by omega⟩
            have := Hgk.out
            omega
          case measure => have := Hgk.out; omega
      · rw [decide_eq_false hin] at hhas
        have Hhas := Lib.hid hhas
        have Hqi2 := Lib.hid (hqi.new Hg.out hin)
        have hR1 : R.length < gs.length := by
          have := (hqi.uni.snoc hnl hin).len
          simp at this
          omega
        have Hgk := Lib.hid hgk
        clear hown hq hdis hbw hqi hq2 hq6 hgk hhas hin hqn hy3 hxl hnu
        rcases (show qcap = 1 ∨ (1 : Int) < qcap by omega) with hcap1 | hcap1
        case' inl =>
          subst hcap1
          have hW0 : W = [] := List.eq_nil_of_length_eq_zero (by omega)
          subst hW0
        all_goals
          go_wp2_with (first
            | (go_at_call 38; refine Hhas.out.mono ?_; rintro e w' ⟨rfl, rfl⟩)
            | (at_builtin; refine wpList_app1 _ rfl (.tmp 26) (.tmp 28) 22 rfl w.heap.size 3 _ 8 Try.underlying22 Try.info3 rfl _ R.length _ _ rfl rfl Hown.out rfl ?_ ?_ ?_ ?_))
          · simp only [maxLen]; omega
          · omega
          · exact Hbw.out.size
          intro ov' w2 g1 _ g3 g4
          have hg : Grw wr w2 (.slice ra R.length rc) ov' := ⟨g3, g4⟩
          have hq2 := fun (v : Value) (o c : Nat) h1 h2 => (Hqn.out v o c h1 h2).keep (hg.by_.block g hqg.2 fun e => Hdis.out e.symm)
          have Hq2 := Lib.hid hq2
          have hb2 := below_grown Hbw.out Hown.out (Nat.le_refl _) Hbw.out.size g3
          have Hb2 := Lib.hid hb2
          have ho : w2.ownsRow w.heap.size 3 1 ov' (R ++ [n]).length ((ints (R ++ [n])).map (Value.int .i64)) := by rw [ints_append]; simpa [ints] using g1
          obtain ⟨ra', rc', hv', _, _, _⟩ := own_slice g1
          subst hv'
          have Ho := Lib.hid ho
          have hdis2 : (Value.slice ra' (R.length + 1) rc').ownBlock ≠ some g := fun e => by
            rcases g4 g e with h1 | h1
            · exact Hdis.out h1
            · omega
          have Hdis2 := Lib.hid hdis2
          have hlt2 : ∀ k, (Value.slice ra' (R.length + 1) rc').ownBlock = some k → k < w2.heap.size := fun k hk => (g1.lt k hk).2
          have Hlt2 := Lib.hid hlt2
          obtain ⟨gb2, go2, xa2, xc2, e0, y0, hy1, hy2, hy3⟩ := (Hll.out.ext hb2).at hnl
          simp at e0
          obtain ⟨rfl, rfl⟩ := e0
          have Hy3b := Lib.hid hy3
          have hs2 := hg.size
          clear g1 g3 g4 hg hq2 hb2 ho hdis2 hlt2 hy3
          go_wp2_with (first
            | (at_builtin; refine wpList_appq _ rfl (.tmp 30) (.tmp 34) 22 rfl Try.underlying22 Try.info3 w.heap.size g _ ((ints W).map (Value.int .i64)) rfl (Hq2.out _ _ _ rfl (by omega)) _ (gF gs n).length _ rfl ((ints (gF gs n)).map (Value.int .i64)) Hxl.out Hy3b.out (ints_one _) Hb2.out.size (by rw [ints_len]; omega) ?_)
            | (at_builtin; refine wpList_appq _ rfl (.tmp 30) (.tmp 34) 22 rfl Try.underlying22 Try.info3 w.heap.size g _ ((ints []).map (Value.int .i64)) rfl (Hq2.out _ _ _ rfl (by simp)) _ (gF gs n).length _ rfl ((ints (gF gs n)).map (Value.int .i64)) Hxl.out Hy3b.out (ints_one _) Hb2.out.size (by rw [ints_len]; simp; omega) ?_))
          intro wv' w3 g' q1 q2 q3
          rw [← List.map_append, ← ints_append] at q1
          have hdis3 : (Value.slice ra' (R.length + 1) rc').ownBlock ≠ some g' := fun e => by
            rcases q3 with rfl | h1
            · exact Hdis2.out e
            · have := Hlt2.out _ e; omega
          have ho3 : w3.ownsRow w.heap.size 3 1 (.slice ra' (R.length + 1) rc') (R ++ [n]).length ((ints (R ++ [n])).map (Value.int .i64)) := own_keep Ho.out fun k hk => q2.block k (Hlt2.out k hk) fun e => Hdis2.out (by rw [hk, ← e])
          have hb3 : Below w.heap.size w w3 := Hb2.out.grown q2 Hb2.out.size fun k hk => by simp at hk; omega
          obtain ⟨_, _, _, hwv', _⟩ := q1.ex
          rw [ints_len] at hwv'
          subst hwv'
          have Q1 := Lib.hid q1
          have Hdis3 := Lib.hid hdis3
          have Ho3 := Lib.hid ho3
          have Hb3 := Lib.hid hb3
          clear q1 q2 q3 hdis3 ho3 hb3
          go_wp2_with fail
          have hgk' := Hgk.out
          first
            | simp only [List.length_nil] at hgk'
            | skip
          go_roundg (gk - 102 + (gF gs n).length)
          case rel =>
            unfold QLoop
            exact ⟨R ++ [n], _, g', Ho3.out, Q1.out, Hdis3.out, Hb3.out, Hqi2.out, by simp; omega, by omega⟩
          case measure => omega

/-- Whether a declaration contains itself; whether it contains itself or one that does. -/
noncomputable def onC (F : Nat → List Nat) (n : Nat) : Bool := @decide (Rch F noM n n) (Classical.propDecidable _)
theorem onC_iff {F : Nat → List Nat} {n : Nat} : onC F n = true ↔ Rch F noM n n := by unfold onC; exact @decide_eq_true_iff _ (Classical.propDecidable _)
noncomputable def reB (F : Nat → List Nat) (n : Nat) : Bool := @decide (∃ x, (x = n ∨ Rch F noM n x) ∧ Rch F noM x x) (Classical.propDecidable _)
theorem reB_iff {F : Nat → List Nat} {n : Nat} : reB F n = true ↔ ∃ x, (x = n ∨ Rch F noM n x) ∧ Rch F noM x x := by unfold reB; exact @decide_eq_true_iff _ (Classical.propDecidable _)

set_option maxHeartbeats 1000000 in
set_option maxRecDepth 100000 in
theorem onCycle_any (gs : List (List Nat)) (hg : GsOk gs) (hN : gs.length ≤ 100) (w : World) (ga : Option Addr) (gc : Nat) (hgc1 : gs.length ≤ gc) (hgc2 : gc ≤ 9223372036854775807) (hll : LL w (.slice ga gs.length gc) (gs.map ints)) (n : Nat) (hn : n < gs.length) :
    Calls Try.prog 28 #[.slice ga gs.length gc, .int .i64 (n : Int)] w fun e w' => e = .returned (.bool (onC (gF gs) n)) ∧ Below w.heap.size w w' := by
  have H39 := Lib.hid (reached_any gs hg hN w ga gc hgc1 hgc2 hll n hn)
  clear hll hg
  go_enter Try.func28, Try.ntmps28
  go_wp2_with fail
  go_at_call 39
  refine H39.out.mono ?_
  rintro e w2 ⟨v, R, rfl, ho, hb, hu, hm⟩
  have h38 := has_own ho n
  have he : decide (n ∈ R) = onC (gF gs) n := by
    rw [Bool.eq_iff_iff, onC_iff, decide_eq_true_iff]
    exact hm n
  rw [he] at h38
  have H38 := Lib.hid h38
  have Hb := Lib.hid hb
  obtain ⟨va, vc, rfl, _, _, _⟩ := own_slice ho
  clear h38 hb ho hm he hu
  go_wp2_with fail
  go_at_call 38
  refine H38.out.mono ?_
  rintro e w' ⟨rfl, rfl⟩
  go_wp2_with fail
  go_ret
  exact ⟨rfl, Hb.out⟩

set_option maxHeartbeats 1000000 in
set_option maxRecDepth 100000 in
theorem reaches_any (gs : List (List Nat)) (hg : GsOk gs) (hN : gs.length ≤ 100) (w : World) (ga : Option Addr) (gc : Nat) (hgc1 : gs.length ≤ gc) (hgc2 : gc ≤ 9223372036854775807) (hll : LL w (.slice ga gs.length gc) (gs.map ints)) (n : Nat) (hn : n < gs.length) :
    Calls Try.prog 27 #[.slice ga gs.length gc, .int .i64 (n : Int)] w fun e w' => e = .returned (.bool (reB (gF gs) n)) ∧ Below w.heap.size w w' := by
  have H39 := Lib.hid (reached_any gs hg hN w ga gc hgc1 hgc2 hll n hn)
  have Hll := Lib.hid hll
  have Hg := Lib.hid hg
  clear hll hg
  go_enter Try.func27, Try.ntmps27
  go_wp2_with fail
  go_at_call 39
  refine H39.out.mono ?_
  rintro e w2 ⟨v, R, rfl, ho, hb, hu, hm⟩
  have hRl := hu.len
  have Ho := Lib.hid ho
  obtain ⟨va, vc, rfl, _, _, _⟩ := own_slice ho
  have Hb := Lib.hid hb
  have Hu := Lib.hid hu
  have Hm := Lib.hid hm
  clear ho hb hu hm H39
  go_wp2_with (at_builtin; refine wpList_app1 _ rfl (.tmp 9) (.tmp 11) 22 rfl w.heap.size 3 _ 8 Try.underlying22 Try.info3 rfl _ R.length _ _ rfl rfl Ho.out rfl ?_ ?_ ?_ ?_)
  · simp only [maxLen]; omega
  · omega
  · exact Hb.out.size
  intro v' w3 g1 _ g3 _
  obtain ⟨va', vc', rfl, _, _, _⟩ := own_slice g1
  have hb3 := below_grown Hb.out Ho.out (Nat.le_refl _) Hb.out.size g3
  have Hb3 := Lib.hid hb3
  have hL : w3.ownsRow w.heap.size 3 1 (.slice va' (R.length + 1) vc') (R.length + 1) ((ints (R ++ [n])).map (Value.int .i64)) := by rw [ints_append]; simpa [ints] using g1
  have HL := Lib.hid (own_row hL)
  have hlt : ∀ x ∈ R ++ [n], x < gs.length := by
    intro x hx
    simp at hx
    rcases hx with hx | rfl
    · exact Hu.out.lt x hx
    · exact hn
  have Hlt := Lib.hid hlt
  have hll : (R ++ [n]).length = R.length + 1 := by simp
  have Hll2 := Lib.hid hll
  have hreb : ∀ b : Bool, (b = true ↔ ∃ x ∈ R ++ [n], Rch (gF gs) noM x x) → b = reB (gF gs) n := by
    intro b hb
    rw [Bool.eq_iff_iff, hb, reB_iff]
    constructor
    · rintro ⟨x, hx, hr⟩
      simp at hx
      rcases hx with hx | rfl
      · exact ⟨x, Or.inr ((Hm.out x).1 hx), hr⟩
      · exact ⟨x, Or.inl rfl, hr⟩
    · rintro ⟨x, rfl | hx, hr⟩
      · exact ⟨x, by simp, hr⟩
      · exact ⟨x, by simp [(Hm.out x).2 hx], hr⟩
  have Hreb := Lib.hid hreb
  generalize R ++ [n] = L at HL Hlt Hll2 Hreb
  clear g1 g3 hb3 hL hlt hll hreb Ho Hb Hu Hm
  go_wp2_with fail
  go_loopw [14] (fun i wr => ∃ k : Nat, k ≤ R.length + 1 ∧ i = .int .i64 k ∧ Below w3.heap.size w3 wr ∧ Hid (∀ x ∈ L.take k, ¬ Rch (gF gs) noM x x)) (fun i _ => R.length + 1 - (intOf i).toNat)
  case atStart => exact ⟨0, Nat.zero_le _, rfl, Below.refl _ _, Lib.hid (by simp)⟩
  case round =>
    obtain ⟨k, hk, rfl, hbw, hno⟩ := hrel
    by_cases hlt : k < R.length + 1
    · have hkl : k < L.length := by rw [Hll2.out]; exact hlt
      obtain ⟨b, o, rfl, x0⟩ := (HL.out.ext hbw).at (j := k) (by rw [ints_len]; exact hkl)
      have hxk : ((ints L).map (Value.int .i64))[k]'(by rw [ints_len]; exact hkl) = .int .i64 ((L[k] : Nat) : Int) := by simp [ints]
      rw [hxk] at x0
      have hmem := List.getElem_mem hkl
      have htake : L.take (k + 1) = L.take k ++ [L[k]] := List.take_succ_eq_append_getElem hkl
      have hml := Hlt.out _ hmem
      generalize L[k] = x at x0 hmem htake hml
      have Htake := Lib.hid htake
      have Hmem := Lib.hid hmem
      have hbw3 : Below w.heap.size w wr := Hb3.out.trans (hbw.mono Hb3.out.size)
      have h28 := onCycle_any gs Hg.out hN wr ga gc hgc1 hgc2 (Hll.out.ext hbw3) x hml
      cases hc : onC (gF gs) x
      · rw [hc] at h28
        have H28 := Lib.hid h28
        have hno2 : ∀ y ∈ L.take (k + 1), ¬ Rch (gF gs) noM y y := by
          rw [Htake.out]
          intro y hy
          simp at hy
          rcases hy with hy | rfl
          · exact hno.out y hy
          · intro hr
            rw [onC_iff.2 hr] at hc
            cases hc
        have Hno2 := Lib.hid hno2
        have Hbw := Lib.hid hbw
        clear h28 hc hno2 htake hmem hbw hbw3 hxk
        go_wp2_with (go_at_call 28; refine H28.out.mono ?_; rintro e w4 ⟨rfl, hb4⟩; have Hb4 := Lib.hid hb4; clear hb4)
        go_roundw
        case rel => exact ⟨k + 1, by omega, by go_num, Hbw.out.trans (Hb4.out.mono Hbw.out.size), Hno2⟩
        case measure => simp [intOf]; omega
      · rw [hc] at h28
        have H28 := Lib.hid h28
        have Hfin := Lib.hid (Hreb.out true ⟨fun _ => ⟨x, hmem, onC_iff.1 hc⟩, fun _ => rfl⟩)
        have Hbw3 := Lib.hid hbw3
        clear h28 hc htake hmem hbw hbw3 hxk
        go_wp2_with (go_at_call 28; refine H28.out.mono ?_; rintro e w4 ⟨rfl, hb4⟩; have Hb4 := Lib.hid hb4; clear hb4)
        go_ret
        exact ⟨by rw [← Hfin.out]; rfl, Hbw3.out.trans (Hb4.out.mono Hbw3.out.size)⟩
    · have hke : k = R.length + 1 := by omega
      subst hke
      have hnone := hno.out
      rw [List.take_of_length_le (by rw [Hll2.out]; exact Nat.le_refl _)] at hnone
      have Hfin := Lib.hid (Hreb.out false ⟨fun h => (by cases h), fun ⟨x, hx, hr⟩ => absurd hr (hnone x hx)⟩)
      clear hnone
      go_wp2_with fail
      go_ret
      exact ⟨by rw [← Hfin.out]; rfl, Hb3.out.trans (hbw.mono Hb3.out.size)⟩

end Go.Proofs.Ytnaedpfaeioolaa
