/- The contracts of the small functions that compare or look: has, all, bools, lists. No condition but that what is read lies in memory. -/
import Derived.Test.YtnaedpfaeioolaaMem
import Derived.Deep.QuietTactic
import Derived.BigQuiet
namespace Go.Proofs.Ytnaedpfaeioolaa
open Go.RowKit
set_option linter.unusedVariables false

set_option maxHeartbeats 400000 in
theorem has_any (a : Option Addr) (cap : Nat) (xs : List Int) (n : Int) (w : World) (hcap : xs.length ≤ cap) (hm : cap ≤ 9223372036854775807) (hc : Row w a (xs.map (Value.int .i64))) :
    Calls Try.prog 38 #[.slice a xs.length cap, .int .i64 n] w fun e w' => e = .returned (.bool (decide (n ∈ xs))) ∧ w = w' := by
  go_enter Try.func38, Try.ntmps38
  go_wp2_with fail
  go_loop [9] (fun i => ∃ k : Nat, k ≤ xs.length ∧ i = .int .i64 k ∧ (∀ j : Nat, j < k → xs[j]? ≠ some n)) (fun i => xs.length - (intOf i).toNat)
  case atStart => exact ⟨0, Nat.zero_le _, rfl, by intro j h; omega⟩
  case round =>
    obtain ⟨k, hk, rfl, hn⟩ := hrel
    have Hn := Lib.hid hn; clear hn
    have Hc := Lib.hid hc; clear hc
    by_cases hlt : k < xs.length
    · obtain ⟨b, o, rfl, hx⟩ := Hc.out.int k hlt
      by_cases he : xs[k] = n
      · have he' : (xs[k] == n) = true := by simpa using he
        have Hm := Lib.hid (show n ∈ xs from he ▸ List.getElem_mem hlt); clear he
        go_wp2_with fail
        go_ret
        exact ⟨ret_bool (by simpa using Hm.out), rfl⟩
      · have he' : (xs[k] == n) = false := by simpa using he
        go_wp2_with fail
        go_round
        case rel =>
          refine ⟨k + 1, by omega, by go_num, fun j hj => ?_⟩
          rcases Nat.lt_succ_iff_lt_or_eq.1 hj with h | h
          · exact Hn.out j h
          · subst h; simpa [hlt] using he
        case measure => simp [intOf]; omega
    · go_wp2_with fail
      go_ret
      refine ⟨ret_bool ?_, rfl⟩
      have : ¬ n ∈ xs := by
        intro hm
        obtain ⟨j, hj⟩ := List.mem_iff_getElem?.1 hm
        exact Hn.out j (by have := (List.getElem?_eq_some_iff.1 hj).1; omega) hj
      simpa using this

def allB (xs : List Bool) (what : Bool) (n : Int) : Bool := xs.all (· == what) && decide ((xs.length : Int) = n)
theorem allB_false {xs : List Bool} {what : Bool} {n : Int} (h : xs.all (· == what) = false) : false = allB xs what n := by unfold allB; rw [h]; rfl

theorem Row.bool {w : World} {a : Option Addr} {xs : List Bool} (h : Row w a (xs.map Value.bool)) (k : Nat) (hk : k < xs.length) :
    ∃ b o, a = some ⟨b, o, none⟩ ∧ w.cell? ⟨b, o + k, none⟩ = some (.bool xs[k]) :=
  h k _ (by simp [hk])

set_option maxHeartbeats 400000 in
theorem all_any (a : Option Addr) (cap : Nat) (xs : List Bool) (n : Int) (what : Bool) (w : World) (hcap : xs.length ≤ cap) (hm : cap ≤ 9223372036854775807) (hc : Row w a (xs.map Value.bool)) :
    Calls Try.prog 18 #[.slice a xs.length cap, .int .i64 n, .bool what] w fun e w' => e = .returned (.bool (allB xs what n)) ∧ w = w' := by
  go_enter Try.func18, Try.ntmps18
  go_wp2_with fail
  go_loop [11] (fun i => ∃ k : Nat, k ≤ xs.length ∧ i = .int .i64 k ∧ (∀ j : Nat, j < k → xs[j]? = some what)) (fun i => xs.length - (intOf i).toNat)
  case atStart => exact ⟨0, Nat.zero_le _, rfl, by intro j h; omega⟩
  case round =>
    obtain ⟨k, hk, rfl, hn⟩ := hrel
    have Hn := Lib.hid hn; clear hn
    have Hc := Lib.hid hc; clear hc
    by_cases hlt : k < xs.length
    · obtain ⟨b, o, rfl, hx⟩ := Row.bool Hc.out k hlt
      have hget : xs[k]? = some xs[k] := List.getElem?_eq_getElem hlt
      have hmem : xs[k] ∈ xs := List.getElem_mem hlt
      generalize xs[k] = x at hx hget hmem
      have Hg := Lib.hid hget; clear hget
      have Hmem := Lib.hid hmem; clear hmem
      by_cases he : x = what
      · subst he
        have Hx := Lib.hid hx; clear hx
        cases x
        all_goals
          have hx := Hx.out
          go_wp2_with fail
          go_round
          case rel =>
            refine ⟨k + 1, by omega, by go_num, fun j hj => ?_⟩
            rcases Nat.lt_succ_iff_lt_or_eq.1 hj with h | h
            · exact Hn.out j h
            · subst h; exact Hg.out
          case measure => simp [intOf]; omega
      · have hall : xs.all (· == what) = false := by
          rw [List.all_eq_false]
          exact ⟨x, Hmem.out, by simpa using he⟩
        have Hall := Lib.hid hall; clear hall
        have Hx := Lib.hid hx; clear hx
        cases x <;> cases what <;> first | exact absurd rfl he | skip
        all_goals
          have hx := Hx.out
          clear he
          go_wp2_with fail
          go_ret
          exact ⟨ret_bool (allB_false Hall.out), rfl⟩
    · by_cases hn : (xs.length : Int) = n
      · subst hn
        go_wp2_with fail
        go_ret
        refine ⟨ret_bool ?_, rfl⟩
        have : xs.all (· == what) = true := by
          rw [List.all_eq_true]
          intro x hx
          obtain ⟨j, hj⟩ := List.mem_iff_getElem?.1 hx
          have := Hn.out j (by have := (List.getElem?_eq_some_iff.1 hj).1; omega)
          rw [this] at hj
          simpa using hj.symm
        simp [allB, this]
      · have hn' : ((xs.length : Int) == n) = false := by simpa using hn
        have HN := Lib.hid hn; clear hn
        go_wp2_with fail
        go_ret
        exact ⟨ret_bool (by simp [allB, HN.out]), rfl⟩

theorem all_sv (v : Value) (xs : List Bool) (n : Int) (what : Bool) (w : World) (h : SliceV w v xs.length (xs.map Value.bool)) :
    Calls Try.prog 18 #[v, .int .i64 n, .bool what] w fun e w' => e = .returned (.bool (allB xs what n)) ∧ w = w' := by
  obtain ⟨a, cap, rfl, h1, h2, h3⟩ := h
  exact all_any a cap xs n what w h1 (by simpa [maxLen] using h2) h3

def eqB (xs ys : List Bool) : Bool := decide (xs = ys)
theorem eqB_false {xs ys : List Bool} (h : xs ≠ ys) : false = eqB xs ys := by simp [eqB, h]
theorem eqB_true {xs ys : List Bool} (h : xs = ys) : true = eqB xs ys := by simp [eqB, h]

set_option maxHeartbeats 400000 in
theorem bools_any (a a' : Option Addr) (cap cap' : Nat) (xs ys : List Bool) (w : World) (hcap : xs.length ≤ cap) (hm : cap ≤ 9223372036854775807) (hc : Row w a (xs.map Value.bool)) (hcap' : ys.length ≤ cap') (hm' : cap' ≤ 9223372036854775807) (hc' : Row w a' (ys.map Value.bool)) :
    Calls Try.prog 23 #[.slice a xs.length cap, .slice a' ys.length cap'] w fun e w' => e = .returned (.bool (eqB xs ys)) ∧ ∃ n, w' = w.drewN n := by
  by_cases hlen : xs.length = ys.length
  · have Hlen := Lib.hid hlen
    have hl' : ((xs.length : Int) != ys.length) = false := by simp [hlen]
    have hle : xs.length ≤ ys.length := by omega
    clear hlen
    go_enter Try.func23, Try.ntmps23
    go_wp2_with fail
    go_loopw [13] (fun i wr => ∃ k : Nat, k ≤ xs.length ∧ i = .int .i64 k ∧ (∀ j : Nat, j < k → xs[j]? = ys[j]?) ∧ ∃ n, wr = w.drewN n) (fun i _ => xs.length - (intOf i).toNat)
    case atStart => exact ⟨0, Nat.zero_le _, rfl, by intro j h; omega, 0, rfl⟩
    case round =>
      obtain ⟨k, hk, rfl, hn, n, rfl⟩ := hrel
      have Hn := Lib.hid hn; clear hn
      have Hc := Lib.hid hc; clear hc
      have Hc' := Lib.hid hc'; clear hc'
      by_cases hlt : k < xs.length
      · obtain ⟨b, o, rfl, hx⟩ := Row.bool Hc.out k hlt
        obtain ⟨b', o', rfl, hx'⟩ := Row.bool Hc'.out k (by omega)
        have hget : xs[k]? = some xs[k] := List.getElem?_eq_getElem hlt
        have hget' : ys[k]? = some ys[k] := List.getElem?_eq_getElem (by omega)
        generalize xs[k] = x at hx hget
        generalize ys[k] = y at hx' hget'
        have Hg := Lib.hid hget; clear hget
        have Hg' := Lib.hid hget'; clear hget'
        have Hx := Lib.hid hx; clear hx
        have Hx' := Lib.hid hx'; clear hx'
        by_cases he : x = y
        · subst he
          cases x
          all_goals
            have hx := Hx.out
            have hx' := Hx'.out
            go_wp2_with fail
            go_quiet (fail)
            go_wp2_with fail
            go_roundw
            case rel =>
              refine ⟨k + 1, by omega, by go_num, fun j hj => ?_, _, rfl⟩
              rcases Nat.lt_succ_iff_lt_or_eq.1 hj with h | h
              · exact Hn.out j h
              · subst h; rw [Hg.out, Hg'.out]
            case measure => simp [intOf]; omega
        · have hne : xs ≠ ys := by
            intro h
            have h1 := Hg.out
            rw [h, Hg'.out] at h1
            exact he (by simpa using h1.symm)
          have Hne := Lib.hid hne; clear hne
          cases x <;> cases y <;> first | exact absurd rfl he | skip
          all_goals
            have hx := Hx.out
            have hx' := Hx'.out
            clear he
            go_wp2_with fail
            go_quiet (fail)
            go_wp2_with fail
            go_ret
            refine ⟨ret_bool (eqB_false Hne.out), ?_⟩
            first | exact ⟨_, rfl⟩ | exact ⟨_, World.drewN_drewN ..⟩
      · go_wp2_with fail
        go_ret
        refine ⟨ret_bool (eqB_true ?_), n, rfl⟩
        apply List.ext_getElem?
        intro j
        by_cases hj : j < xs.length
        · exact Hn.out j (by omega)
        · rw [List.getElem?_eq_none (by omega), List.getElem?_eq_none (by have := Hlen.out; omega)]
  · have hl' : ((xs.length : Int) != ys.length) = true := by simpa using (by omega : ¬ (xs.length : Int) = ys.length)
    have Hlen := Lib.hid hlen; clear hlen
    go_enter Try.func23, Try.ntmps23
    go_wp2_with fail
    go_ret
    exact ⟨ret_bool (eqB_false fun h => Hlen.out (by rw [h])), 0, rfl⟩

theorem bools_sv (v v' : Value) (xs ys : List Bool) (w : World) (h : SliceV w v xs.length (xs.map Value.bool)) (h' : SliceV w v' ys.length (ys.map Value.bool)) :
    Calls Try.prog 23 #[v, v'] w fun e w' => e = .returned (.bool (eqB xs ys)) ∧ ∃ n, w' = w.drewN n := by
  obtain ⟨a, cap, rfl, h1, h2, h3⟩ := h
  obtain ⟨a', cap', rfl, h1', h2', h3'⟩ := h'
  exact bools_any a a' cap cap' xs ys w h1 (by simpa [maxLen] using h2) h3 h1' (by simpa [maxLen] using h2') h3'

def eqL (xs ys : List (List Int)) : Bool := decide (xs = ys)
theorem eqL_false {xs ys : List (List Int)} (h : xs ≠ ys) : false = eqL xs ys := by simp [eqL, h]
theorem eqL_true {xs ys : List (List Int)} (h : xs = ys) : true = eqL xs ys := by simp [eqL, h]

set_option maxHeartbeats 1000000 in
theorem lists_any (a a' : Option Addr) (cap cap' : Nat) (xss yss : List (List Int)) (us vs : List Value) (w : World) (hm : xss.length ≤ 9223372036854775807) (hc : Row w a us) (hc' : Row w a' vs)
    (hus : us.length = xss.length) (hvs : vs.length = yss.length) (hu : ∀ (i : Nat) u xs, us[i]? = some u → xss[i]? = some xs → IntsV w u xs) (hv : ∀ (i : Nat) u xs, vs[i]? = some u → yss[i]? = some xs → IntsV w u xs) :
    Calls Try.prog 16 #[.slice a xss.length cap, .slice a' yss.length cap'] w fun e w' => e = .returned (.bool (eqL xss yss)) ∧ ∃ n, w' = w.drewN n := by
  have Hu := Lib.hid hu; clear hu
  have Hv := Lib.hid hv; clear hv
  have Hus := Lib.hid hus; clear hus
  have Hvs := Lib.hid hvs; clear hvs
  have Hc := Lib.hid hc; clear hc
  have Hc' := Lib.hid hc'; clear hc'
  by_cases hlen : xss.length = yss.length
  · have Hlen := Lib.hid hlen
    have hl' : ((xss.length : Int) != yss.length) = false := by simp [hlen]
    have hle : xss.length ≤ yss.length := by omega
    clear hlen
    go_enter Try.func16, Try.ntmps16
    go_wp2_with fail
    go_loopw [14] (fun i wr => ∃ k : Nat, k ≤ xss.length ∧ i = .int .i64 k ∧ (∀ j : Nat, j < k → xss[j]? = yss[j]?) ∧ ∃ n, wr = w.drewN n) (fun i _ => xss.length - (intOf i).toNat)
    case atStart => exact ⟨0, Nat.zero_le _, rfl, by intro j h; omega, 0, rfl⟩
    case round =>
      obtain ⟨k, hk, rfl, hn, n, rfl⟩ := hrel
      have Hn := Lib.hid hn; clear hn
      by_cases hlt : k < xss.length
      · have e1 : xss[k]? = some xss[k] := List.getElem?_eq_getElem hlt
        have hk2 : k < yss.length := by omega
        have e2 : yss[k]? = some yss[k] := List.getElem?_eq_getElem hk2
        have hk3 : k < us.length := by have := Hus.out; omega
        have hk4 : k < vs.length := by have := Hvs.out; omega
        have e3 : us[k]? = some us[k] := List.getElem?_eq_getElem hk3
        have e4 : vs[k]? = some vs[k] := List.getElem?_eq_getElem hk4
        obtain ⟨b, o, rfl, hx⟩ := Hc.out k _ e3
        obtain ⟨b', o', rfl, hx'⟩ := Hc'.out k _ e4
        obtain ⟨c, ccap, h1, h2, h3, h4⟩ := Hu.out k _ _ e3 e1
        obtain ⟨c', ccap', h1', h2', h3', h4'⟩ := Hv.out k _ _ e4 e2
        rw [h1] at hx
        rw [h1'] at hx'
        clear h1 h1' e3 e4 h2' h3'
        generalize xss[k] = xs at e1 hx h2 h4
        generalize yss[k] = ys at e2 hx' h4'
        have E1 := Lib.hid e1; clear e1
        have E2 := Lib.hid e2; clear e2
        have H4 := Lib.hid h4; clear h4
        have H4' := Lib.hid h4'; clear h4'
        have hxm : xs.length ≤ 9223372036854775807 := by simp only [maxLen] at h3; omega
        clear h2 h3
        by_cases he : xs.length = ys.length
        · have he' : ((xs.length : Int) != ys.length) = false := by simp [he]
          have hye : xs.length ≤ ys.length := by omega
          have He := Lib.hid he; clear he
          go_wp2_with fail
          go_quiet (fail)
          go_wp2_with fail
          obtain ⟨wo, hwo⟩ : ∃ wo : World, wo = w.drewN (n + nq) := ⟨_, rfl⟩
          go_loopw [33] (fun i wr => ∃ t : Nat, t ≤ xs.length ∧ i = .int .i64 t ∧ (∀ j : Nat, j < t → xs[j]? = ys[j]?) ∧ ∃ n, wr = w.drewN n) (fun i _ => xs.length - (intOf i).toNat)
          case atStart => exact ⟨0, Nat.zero_le _, rfl, by intro j h; omega, _, rfl⟩
          case round =>
            obtain ⟨t, ht, rfl, hn, n2, rfl⟩ := hrel
            have HnI := Lib.hid hn; clear hn
            by_cases hlt2 : t < xs.length
            · obtain ⟨bb, oo, rfl, hy⟩ := Row.int H4.out t hlt2
              have ht2 : t < ys.length := by omega
              obtain ⟨bb', oo', rfl, hy'⟩ := Row.int H4'.out t ht2
              have f1 : xs[t]? = some xs[t] := List.getElem?_eq_getElem hlt2
              have f2 : ys[t]? = some ys[t] := List.getElem?_eq_getElem ht2
              generalize xs[t] = x at hy f1
              generalize ys[t] = y at hy' f2
              have F1 := Lib.hid f1; clear f1
              have F2 := Lib.hid f2; clear f2
              by_cases hxy : x = y
              · subst hxy
                go_wp2_with fail
                go_quiet (fail)
                go_wp2_with fail
                go_roundw
                case rel =>
                  refine ⟨t + 1, by omega, by go_num, fun j hj => ?_, _, rfl⟩
                  rcases Nat.lt_succ_iff_lt_or_eq.1 hj with h | h
                  · exact HnI.out j h
                  · subst h; rw [F1.out, F2.out]
                case measure => simp [intOf]; omega
              · have hxy' : (x != y) = true := by simpa using hxy
                have hne : xss ≠ yss := by
                  intro h
                  have h1 := E1.out
                  rw [h, E2.out] at h1
                  have h2 : ys = xs := by simpa using h1
                  subst h2
                  have h3 := F1.out
                  rw [F2.out] at h3
                  exact hxy (by simpa using h3.symm)
                have Hne := Lib.hid hne; clear hne hxy
                go_wp2_with fail
                go_quiet (fail)
                go_wp2_with fail
                go_ret
                refine ⟨ret_bool (eqL_false Hne.out), ?_⟩
                first | exact ⟨_, rfl⟩ | exact ⟨_, World.drewN_drewN ..⟩
            · go_wp2_with fail
              go_roundw
              case rel =>
                refine ⟨k + 1, by omega, by go_num, fun j hj => ?_, _, rfl⟩
                rcases Nat.lt_succ_iff_lt_or_eq.1 hj with h | h
                · exact Hn.out j h
                · subst h
                  rw [E1.out, E2.out]
                  congr 1
                  apply List.ext_getElem?
                  intro i
                  by_cases hi : i < xs.length
                  · exact HnI.out i (by omega)
                  · rw [List.getElem?_eq_none (by omega), List.getElem?_eq_none (by have := He.out; omega)]
              case measure => simp [intOf]; omega
        · have he' : ((xs.length : Int) != ys.length) = true := by simpa using (by omega : ¬ (xs.length : Int) = ys.length)
          have hne : xss ≠ yss := by
            intro h
            have h1 := E1.out
            rw [h, E2.out] at h1
            have h2 : ys = xs := by simpa using h1
            exact he (by rw [h2])
          have Hne := Lib.hid hne; clear hne he
          go_wp2_with fail
          go_quiet (fail)
          go_wp2_with fail
          go_ret
          refine ⟨ret_bool (eqL_false Hne.out), ?_⟩
          first | exact ⟨_, rfl⟩ | exact ⟨_, World.drewN_drewN ..⟩
      · go_wp2_with fail
        go_ret
        refine ⟨ret_bool (eqL_true ?_), n, rfl⟩
        apply List.ext_getElem?
        intro j
        by_cases hj : j < xss.length
        · exact Hn.out j (by omega)
        · rw [List.getElem?_eq_none (by omega), List.getElem?_eq_none (by have := Hlen.out; omega)]
  · have hl' : ((xss.length : Int) != yss.length) = true := by simpa using (by omega : ¬ (xss.length : Int) = yss.length)
    have Hlen := Lib.hid hlen; clear hlen
    go_enter Try.func16, Try.ntmps16
    go_wp2_with fail
    go_ret
    exact ⟨ret_bool (eqL_false fun h => Hlen.out (by rw [h])), 0, rfl⟩

theorem lists_ll (v v' : Value) (xss yss : List (List Int)) (w : World) (h : LL w v xss) (h' : LL w v' yss) :
    Calls Try.prog 16 #[v, v'] w fun e w' => e = .returned (.bool (eqL xss yss)) ∧ ∃ n, w' = w.drewN n := by
  obtain ⟨us, ⟨a, cap, rfl, h1, h2, h3⟩, h4, h5⟩ := h
  obtain ⟨vs, ⟨a', cap', rfl, h1', h2', h3'⟩, h4', h5'⟩ := h'
  exact lists_any a a' cap cap' xss yss us vs w (by simp only [maxLen] at h2; omega) h3 h3' h4 h4' h5 h5'

end Go.Proofs.Ytnaedpfaeioolaa
