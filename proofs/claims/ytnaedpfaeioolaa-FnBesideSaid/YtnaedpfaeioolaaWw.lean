/- The contract of works: a type that is a struct of itself is found invalid. Small facts that the statements on ValidTypes share. -/
import Derived.Test.YtnaedpfaeioolaaWo
import Derived.Test.YtnaedpfaeioolaaD2
namespace Go.Proofs.Ytnaedpfaeioolaa
open Go.RowKit
set_option linter.unusedVariables false

theorem lists_eq (v v' : Value) (xss : List (List Int)) (w : World) (h : LL w v xss) (h' : LL w v' xss) :
    Calls Try.prog 16 #[v, v'] w fun e w' => e = .returned (.bool true) ∧ ∃ n, w' = w.drewN n :=
  (lists_ll v v' xss xss w h h').mono fun e w' ⟨h1, h2⟩ => ⟨by rw [h1, ← eqL_true rfl], h2⟩
theorem all_yes (v : Value) (xs : List Bool) (n : Int) (what : Bool) (w : World) (h : SliceV w v xs.length (xs.map Value.bool)) (hb : allB xs what n = true) :
    Calls Try.prog 18 #[v, .int .i64 n, .bool what] w fun e w' => e = .returned (.bool true) ∧ w = w' :=
  (all_sv v xs n what w h).mono fun e w' ⟨h1, h2⟩ => ⟨by rw [h1, hb], h2⟩

/-- The literal [][]int{{0}}. -/
theorem lit00 (w : World) : LL ((w.alloc (.cells #[.int .i64 0] 3)).alloc (.cells #[.slice (some ⟨w.heap.size, 0, none⟩) 1 1] 22)) (.slice (some ⟨w.heap.size + 1, 0, none⟩) 1 1) [[0]] := by
  refine ⟨[.slice (some ⟨w.heap.size, 0, none⟩) 1 1], ⟨_, _, rfl, Nat.le_refl _, by unfold maxLen; simp, ?_⟩, rfl, ?_⟩
  · intro j u hj
    match j, hj with
    | 0, hj =>
      simp at hj
      subst hj
      exact ⟨_, _, rfl, by rw [cell_of (alloc_at (by simp))]; rfl⟩
  · intro i u xs hu hx
    match i, hu, hx with
    | 0, hu, hx =>
      simp at hu hx
      subst hu
      subst hx
      refine ⟨_, _, rfl, Nat.le_refl _, by unfold maxLen; simp, ?_⟩
      intro j u hj
      match j, hj with
      | 0, hj =>
        simp at hj
        subst hj
        exact ⟨_, _, rfl, by rw [cell_of (w := (w.alloc (.cells #[.int .i64 0] 3)).alloc (.cells #[.slice (some ⟨w.heap.size, 0, none⟩) 1 1] 22)) (c := #[.int .i64 0]) (e := 3) (fr := (0, 0)) (by rw [alloc_lt (by simp), alloc_at rfl])]; rfl⟩

def dsOne : List D := [⟨false, .mk 4 0 [.mk 1 0 []]⟩]
theorem one_ok : DOk dsOne := by
  refine ⟨fun d hd => ?_, fun i d hd ha => ?_⟩
  · simp [dsOne] at hd
    subst hd
    exact .mk 4 0 _ (by omega) (by omega) (by simp) (by omega) (by omega) (by simp; exact .mk 1 0 [] (by omega) (by omega) (by simp) (fun _ => by simp [dsOne]) (by omega) (by simp))
  · match i, hd with
    | 0, hd => simp [dsOne] at hd; subst hd; simp at ha
    | i + 1, hd => simp [dsOne] at hd
theorem one_G : GG dsOne 0 = [0] := by
  unfold GG
  rw [show ofOf dsOne 0 = .mk 4 0 [.mk 1 0 []] from rfl, flatF_row _ _ _ _ _ (by omega)]
  simp only [List.flatMap_cons, List.flatMap_nil, List.append_nil]
  exact flatF_name dsOne _ 0 [] rfl
theorem one_find : find (GG dsOne) (fun _ => false) 1 [] [0] = some [0] := by
  rw [find_go _ (by simp) rfl, one_G, find_in _ (by simp)]
  rfl
theorem one_vt : vt (alOf dsOne) (GG dsOne) 1 1 = ([false], mark (fun _ => false) (some [0]), [[0]]) := by
  rw [vt_succ]
  have h0 : vt (alOf dsOne) (GG dsOne) 1 0 = ([], fun _ => false, []) := rfl
  rw [h0]
  unfold vtStep
  rw [if_neg (by decide), one_find]
  rfl
theorem one_ans : vtValid (alOf dsOne) (GG dsOne) 1 = [false] ∧ vtMarked (alOf dsOne) (GG dsOne) 1 = [true] ∧ vtCycles (alOf dsOne) (GG dsOne) 1 = [[0]] := by
  unfold vtValid vtMarked vtCycles
  rw [one_vt]
  exact ⟨rfl, rfl, rfl⟩

theorem one_dv (w : World) : DV ((w.alloc (.cells #[.int .i64 1, .int .i64 0, .slice none 0 0] 45)).alloc (.cells #[.bool false, .int .i64 4, .int .i64 0, .slice (some ⟨w.heap.size, 0, none⟩) 1 1] 47)) (.slice (some ⟨w.heap.size + 1, 0, none⟩) 1 1) dsOne := by
  refine ⟨_, 1, [(.bool false, .int .i64 4, .int .i64 0, .slice (some ⟨w.heap.size, 0, none⟩) 1 1)], rfl, Nat.le_refl _, by unfold maxLen; simp, ?_, rfl, ?_⟩
  · intro j u hj
    refine ⟨_, _, rfl, ?_⟩
    rw [Nat.zero_add, cell_of (alloc_at (by simp))]
    match j, hj with
    | 0, hj => exact hj
    | 1, hj => exact hj
    | 2, hj => exact hj
    | 3, hj => exact hj
    | j + 4, hj => simp [flat4] at hj
  · intro i p d hp hd
    match i, hp, hd with
    | 0, hp, hd =>
      simp [dsOne] at hp hd
      subst hp
      subst hd
      refine ⟨rfl, .mk 4 0 _ 1 [.mk 1 0 []] [(.int .i64 1, .int .i64 0, .slice none 0 0)] rfl (Nat.le_refl _) (by unfold maxLen; simp) ?_ (fun _ _ _ _ => trivial) ?_⟩
      · intro j u hj
        refine ⟨_, _, rfl, ?_⟩
        rw [Nat.zero_add, cell_of (c := #[.int .i64 1, .int .i64 0, .slice none 0 0]) (e := 45) (fr := (0, 0)) (by rw [alloc_lt (by simp), alloc_at rfl])]
        match j, hj with
        | 0, hj => exact hj
        | 1, hj => exact hj
        | 2, hj => exact hj
        | j + 3, hj => simp [flat3] at hj
      · intro i p t hp ht
        match i, hp, ht with
        | 0, hp, ht => simp at hp ht; subst hp; subst ht; exact TV.leaf _ _ 1 0
        | i + 1, hp, ht => simp at hp
    | i + 1, hp, hd => simp at hp

set_option maxHeartbeats 1000000 in
set_option maxRecDepth 100000 in
theorem works_any (w : World) : Calls Try.prog 22 #[] w fun e w' => e = .returned (.bool true) ∧ Below w.heap.size w w' := by
  have H20 := Lib.hid (Valid_any dsOne one_ok (by decide) _ _ 1 (one_dv w))
  have Hb0 := Lib.hid (show Below w.heap.size w ((w.alloc (.cells #[.int .i64 1, .int .i64 0, .slice none 0 0] 45)).alloc (.cells #[.bool false, .int .i64 4, .int .i64 0, .slice (some ⟨w.heap.size, 0, none⟩) 1 1] 47)) from ((Below.refl _ _).alloc (Nat.le_refl _) _).alloc (by simp) _)
  go_enter Try.func22, Try.ntmps22
  go_wp2_with fail
  go_at_call 20
  refine H20.out.mono ?_
  rintro e w2 hp
  have hp := hp.back Hb0.out
  obtain ⟨va, vb, vc, rfl, h1, h2, h3, hb⟩ := hp
  rw [show dsOne.length = 1 from rfl, one_ans.1] at h1
  rw [show dsOne.length = 1 from rfl, one_ans.2.1] at h2
  rw [show dsOne.length = 1 from rfl, one_ans.2.2] at h3
  have Ha := Lib.hid (fun n : Int => all_yes va [false] n false w2 (own_slice h1))
  have Hm := Lib.hid (fun n : Int => all_yes vb [true] n true w2 (own_slice h2))
  have Hc := Lib.hid h3.ll
  have Hb := Lib.hid hb
  clear h1 h2 h3 hb
  go_wp2_with fail
  go_at_call 18
  refine (Ha.out 1 rfl).mono ?_
  rintro e w' ⟨rfl, rfl⟩
  go_wp2_with fail
  go_at_call 18
  refine (Hm.out 1 rfl).mono ?_
  rintro e w' ⟨rfl, rfl⟩
  go_wp2_with fail
  go_at_call 16
  refine (lists_eq _ _ _ _ (Hc.out.ext (((Below.refl _ _).alloc (Nat.le_refl _) _).alloc (by simp) _)) (lit00 _)).mono ?_
  rintro e w' ⟨rfl, n4, rfl⟩
  go_wp2_with fail
  go_ret
  refine ⟨rfl, ?_⟩
  exact ((Hb.out.alloc Hb.out.size _).alloc (by have := Hb.out.size; simp; omega) _).trans (below_refl_drewN _ _ _)

end Go.Proofs.Ytnaedpfaeioolaa
