/- The contract of spec.Holds: for each declaration the defined types that it contains directly. -/
import Derived.Test.YtnaedpfaeioolaaYe
import Derived.Test.YtnaedpfaeioolaaWj
import Derived.Test.YtnaedpfaeioolaaVq
namespace Go.Proofs.Ytnaedpfaeioolaa
open Go.RowKit
set_option linter.unusedVariables false

/-- The lists say what each declaration contains. -/
structure HoldsOk (ds : List D) (gs : List (List Nat)) : Prop where
  uni : ∀ (i : Nat) R, gs[i]? = some R → Uni ds.length R
  mem : ∀ (i : Nat) R, gs[i]? = some R → ∀ x, x ∈ R ↔ x ∈ GG ds i

def HLoop (ds : List D) (w : World) (v i : Value) (wr : World) : Prop :=
  ∃ (k : Nat) (gs : List (List Nat)), k ≤ ds.length ∧ i = .int .i64 k ∧ gs.length = k ∧ LLO wr w.heap.size v (gs.map ints) ∧ HoldsOk ds gs ∧ Below w.heap.size w wr

def HPost (ds : List D) (w : World) (e : Ending) (w' : World) : Prop :=
  ∃ (v : Value) (gs : List (List Nat)), e = .returned v ∧ gs.length = ds.length ∧ LLO w' w.heap.size v (gs.map ints) ∧ HoldsOk ds gs ∧ Below w.heap.size w w'

set_option maxHeartbeats 2000000 in
set_option maxRecDepth 100000 in
theorem holds_any (ds : List D) (hds : DOk ds) (hN : ds.length ≤ 100) (hdir : ∀ n, n < ds.length → (dirL (ofOf ds n)).length ≤ 1000) (w : World) (a : Option Addr) (cap : Nat) (hdv : DV w (.slice a ds.length cap) ds) :
    Calls Try.prog 25 #[.slice a ds.length cap] w (HPost ds w) := by
  have hcap : ds.length ≤ cap ∧ cap ≤ 9223372036854775807 := by
    obtain ⟨_, _, _, e1, h1, h2, _⟩ := hdv
    simp at e1
    obtain ⟨_, rfl⟩ := e1
    exact ⟨h1, by simpa [maxLen] using h2⟩
  obtain ⟨hcap1, hcap2⟩ := hcap
  have Hdv := Lib.hid hdv; clear hdv
  have Hds := Lib.hid hds; clear hds
  have Hdir := Lib.hid hdir; clear hdir
  go_enter Try.func25, Try.ntmps25
  go_wp2_with fail
  go_loopw [3, 8] (HLoop ds w) (fun _ i _ => ds.length - (intOf i).toNat)
  case atStart => unfold HLoop; exact ⟨0, [], Nat.zero_le _, rfl, rfl, LLO.nil _ _, ⟨by simp, by simp⟩, Below.refl _ _⟩
  case round =>
    obtain ⟨k, gs, hk, rfl, hgl, hll, hho, hbw⟩ := hrel
    obtain ⟨vs, hvs, hin⟩ := hll
    have hgl2 : (gs.map ints).length = k := by simpa using hgl
    rw [hgl2] at hvs
    have Hvs := Lib.hid hvs
    obtain ⟨va, vc, rfl, _, _, _⟩ := own_slice hvs
    clear hvs
    have Hin := Lib.hid hin; clear hin
    have Hgl := Lib.hid hgl; clear hgl
    have Hgl2 := Lib.hid hgl2; clear hgl2
    have Hho := Lib.hid hho; clear hho
    by_cases hlt : k < ds.length
    · obtain ⟨b, o, kd, md, x, y, rfl, x0, x1, x2, x3, ht⟩ := Hdv.out.at hlt
      obtain ⟨xl, xc⟩ := y
      have y0 := cell_later hbw x0
      have y1 := cell_later hbw x1
      have y2 := cell_later hbw x2
      have y3 := cell_later hbw x3
      simp only at y3
      clear x0 x1 x2 x3
      have hbA := fun o' : Obj => hbw.trans (((Below.refl wr.heap.size wr).alloc (Nat.le_refl _) o').mono hbw.size)
      have Hex := Lib.hid (fun o' : Obj => expand_any ds Hds.out hN Hdir.out w _ Hdv.out ds.length 0 (by omega) (ofOf ds k) (Hds.out.of hlt) (AT.zero ds _) (Hdir.out k hlt) (wr.alloc o') (wr.heap.size + 1) (.slice none 0 0) (.agg #[.int .i64 kd, .int .i64 md, .slice x xl xc]) []
        (hbA o') (by have := hbw.size; omega) (by simp) ht (World.ownsRow_nil _ _ _ _) ⟨List.nodup_nil, by simp⟩)
      have HbA := Lib.hid hbA
      have Hbw := Lib.hid hbw
      clear hbA hbw ht
      go_wp2_with (first
        | (go_at_call 37; refine (Hex.out _).mono ?_; rintro e w2 ⟨v', R, rfl, ho, hg, hu, hm⟩; obtain ⟨ra, rc, rfl, _, _, _⟩ := own_slice ho; have Ho := Lib.hid ho; have Hb2 := Lib.hid (hg.none rfl); have Hu := Lib.hid hu; have Hm := Lib.hid hm; clear ho hg hu hm; have Hvs2 := Lib.hid (own_ext (Hvs.out.alloc _) Hb2.out))
        | (at_builtin; refine wpList_app1 _ rfl (.tmp 12) (.tmp 17) 24 rfl w.heap.size 22 _ 24 Try.underlying24 Try.info22 rfl _ k _ _ rfl rfl Hvs2.out rfl ?_ ?_ ?_ ?_))
      · simp only [maxLen]; omega
      · omega
      · have h1 := Hb2.out.size; have h2 := Hbw.out.size; simp at h1; omega
      intro vn w3 g1 _ g3 _
      obtain ⟨va', vc', rfl, _, _, _⟩ := own_slice g1
      have hbelw2 : Below w.heap.size w w2 := (HbA.out _).trans (Hb2.out.mono (by have := Hbw.out.size; simp; omega))
      have hl0 : LLO w3 w.heap.size (.slice va' (k + 1) vc') (gs.map ints ++ [ints R]) := by
        refine LLO.snoc (w := w2) (vs := vs) (by rw [Hgl2.out]; exact Hvs2.out) (fun i u xs hu hx => (Hin.out i u xs hu hx).ext (((Below.refl wr.heap.size wr).alloc (Nat.le_refl _) _).trans (Hb2.out.mono (by simp)))) ?_ (by rw [Hgl2.out]; exact g1) g3
        unfold IntsO
        have := own_base Ho.out (Nat.zero_le _)
        simpa [ints] using this
      have hl1 : LLO w3 w.heap.size (.slice va' (k + 1) vc') ((gs ++ [R]).map ints) := by simpa using hl0
      have hho : HoldsOk ds (gs ++ [R]) := by
        have hc : ∀ (i : Nat) S, (gs ++ [R])[i]? = some S → gs[i]? = some S ∨ (i = k ∧ S = R) := by
          intro i S hS
          by_cases hi : i < gs.length
          · rw [List.getElem?_append_left hi] at hS; exact Or.inl hS
          · have h1 := (List.getElem?_eq_some_iff.1 hS).1
            simp at h1
            have : i = gs.length := by omega
            subst this
            rw [List.getElem?_append_right (Nat.le_refl _)] at hS
            simp at hS
            exact Or.inr ⟨Hgl.out, hS.symm⟩
        refine ⟨fun i S hS => ?_, fun i S hS => ?_⟩
        · rcases hc i S hS with h | ⟨_, rfl⟩
          · exact Hho.out.uni i S h
          · exact Hu.out
        · rcases hc i S hS with h | ⟨rfl, rfl⟩
          · exact Hho.out.mem i S h
          · intro x
            rw [Hm.out x]
            simp [GG]
      have Hl1 := Lib.hid hl1
      have Hh1 := Lib.hid hho
      have Hb3 := Lib.hid (below_grown hbelw2 Hvs2.out (Nat.le_refl _) (by have := hbelw2.size; omega) g3)
      have hgn : (gs ++ [R]).length = k + 1 := by simp [Hgl.out]
      have Hgn := Lib.hid hgn
      clear hl0 hl1 hho g1 g3 hbelw2 hgn
      go_wp2_with fail
      go_roundw
      case rel => unfold HLoop; exact ⟨k + 1, gs ++ [R], by omega, by go_num, Hgn.out, Hl1.out, Hh1.out, Hb3.out⟩
      case measure => simp [intOf]; omega
    · have hke : k = ds.length := by omega
      subst hke
      have Hll := Lib.hid (show LLO wr w.heap.size (.slice va ds.length vc) (gs.map ints) from ⟨vs, by rw [Hgl2.out]; exact Hvs.out, Hin.out⟩)
      go_wp2_with fail
      go_ret
      exact ⟨_, gs, rfl, Hgl.out, Hll.out, Hho.out, hbw⟩

theorem dirL_fit (al : Nat → Bool) (L fr : Nat) : ∀ (d : Nat) (t : T), (dirL (fitT al L fr d t)).length ≤ 3 ^ d := by
  intro d
  induction d with
  | zero =>
    intro t
    obtain ⟨k, n, es⟩ := t
    rw [fitT_mk]
    split
    · split
      · rw [dirL_none _ _ _ (Or.inl rfl)]; simp
      · rw [dirL_name]; simp
    · rename_i h1
      rw [dirL, if_neg h1]
      split
      · rw [fitL_no _ _ _ _ _ _ (Or.inl rfl)]
        unfold fitE
        split <;> simp [dirL_none]
      · simp
  | succ d ih =>
    intro t
    obtain ⟨k, n, es⟩ := t
    have hpos : 1 ≤ 3 ^ (d + 1) := Nat.one_le_pow _ _ (by omega)
    rw [fitT_mk]
    split
    · split
      · rw [dirL_none _ _ _ (Or.inl rfl)]; simp
      · rw [dirL_name]; simpa using hpos
    · rename_i h1
      rw [dirL, if_neg h1]
      split
      · unfold fitE
        split
        · simp [dirL_none]
        · unfold fitL
          simp only []
          split
          · simp
          · have key : ∀ l : List T, ((l.map (fitT al L fr d)).flatMap dirL).length ≤ l.length * 3 ^ d := by
              intro l
              induction l with
              | nil => simp
              | cons e l ihl =>
                rw [List.map_cons, List.flatMap_cons, List.length_append, List.length_cons, Nat.succ_mul]
                have := ih e
                omega
            have h2 := key (es.take (if fitK k = 3 then 1 else 3))
            have h3 : (es.take (if fitK k = 3 then 1 else 3)).length ≤ 3 := by
              rw [List.length_take]
              split <;> omega
            have h4 : (es.take (if fitK k = 3 then 1 else 3)).length * 3 ^ d ≤ 3 * 3 ^ d := Nat.mul_le_mul_right _ h3
            rw [Nat.pow_succ]
            omega
      · simp

theorem fitD_dir (ds : List D) : ∀ n, n < (fitD ds).length → (dirL (ofOf (fitD ds) n)).length ≤ 1000 := by
  intro n hn
  have hi : n < (fit1 (ds.take 8)).length := by unfold fitD at hn; rwa [fit2_len] at hn
  have h : ∃ t, ofOf (fitD ds) n = fitT (alOf (fit1 (ds.take 8))) (fit1 (ds.take 8)).length n 2 t := by
    have hi2 : n < (ds.take 8).length := by rw [fit1_len] at hi; exact hi
    refine ⟨(fit1 (ds.take 8))[n].of, ?_⟩
    unfold ofOf fitD fit2
    rw [List.getD_eq_getElem?_getD, List.getElem?_mapIdx, List.getElem?_eq_getElem hi]
    simp only [Option.map_some, Option.getD_some]
    rw [if_pos hi2]
  obtain ⟨t, ht⟩ := h
  rw [ht]
  exact Nat.le_trans (dirL_fit _ _ _ 2 t) (by decide)

end Go.Proofs.Ytnaedpfaeioolaa
