/- The contract of directCycle: one name's walk, as the plain function dcStep says. At most 30 names, the numbers are names or -1. -/
import Derived.Test.YtnaedpfaeioolaaD7
import Derived.Deep.RegionWith
namespace Go.Proofs.Ytnaedpfaeioolaa
open Go.RowKit
set_option linter.unusedVariables false

def ptrV (T : Nat → Nat) (j : Nat) : Value := .pointer (some ⟨T j, 0, none⟩)

/-- What is declared, as it lies in memory from block B on. -/
structure Stat (w : World) (B : Nat) (r : List Int) (k : Nat) (T D : Nat → Nat) : Prop where
  pk : w.heap[B + 2]? = some (.cells #[.pointer (some ⟨B + 1, 0, none⟩)] 72 (0, 0))
  sc : w.heap[B + 1]? = some (.cells #[.map (some B)] 70 (0, 0))
  m1 : Scope1 w B k T
  m2 : Decls w (B + 3) k T D
  dec : ∀ j, j < k → ∃ (S : Nat) (e : Value), w.heap[D j]? = some (.cells #[.pointer (some ⟨S, 0, none⟩)] 94 (0, 0)) ∧ w.heap[S]? = some (.cells #[e] 92 (0, 0)) ∧
    ((r.getD j (-1) < 0 ∧ e = .nilIface) ∨ (0 ≤ r.getD j (-1) ∧ ∃ I : Nat, e = .iface 86 (.pointer (some ⟨I, 0, none⟩)) ∧ w.heap[I]? = some (.cells #[.int .i64 (r.getD j (-1))] 88 (0, 0))))

/-- The names, marked or not. -/
structure Nm (w : World) (B n : Nat) (T : Nat → Nat) (mk : Nat → Bool) : Prop where
  blk : ∀ j, j < n → ∃ ty, w.heap[T j]? = some (.cells #[.int .i64 (j : Int), ty] 82 (0, 0)) ∧ ((mk j = false ∧ ty = .nilIface) ∨ (mk j = true ∧ ∃ (tt : TypeId) (x : Value), ty = .iface tt x))
  inj : ∀ i j, i < n → j < n → T i = T j → i = j
  lo : ∀ j, j < n → B ≤ T j

theorem Nm.names {w : World} {B n : Nat} {T : Nat → Nat} {mk : Nat → Bool} (h : Nm w B n T mk) : Names w n T :=
  ⟨fun j hj => by obtain ⟨ty, h1, _⟩ := h.blk j hj; exact ⟨_, h1⟩, h.inj⟩

theorem Scope1.tf {tys : List TypeId} {ms : List Nat} {w w' : World} {M k : Nat} {T : Nat → Nat} (h : Scope1 w M k T) (ht : TF tys ms w w') (hm : M ∉ ms) : Scope1 w' M k T := by
  obtain ⟨es, clk, h1, h2⟩ := h
  exact ⟨es, clk, (ht.maps M es clk h1 hm).trans h1, h2⟩
theorem Decls.tf {tys : List TypeId} {ms : List Nat} {w w' : World} {M k : Nat} {T D : Nat → Nat} (h : Decls w M k T D) (ht : TF tys ms w w') (hm : M ∉ ms) : Decls w' M k T D := by
  obtain ⟨es, clk, h1, h2⟩ := h
  exact ⟨es, clk, (ht.maps M es clk h1 hm).trans h1, h2⟩
theorem PIdx.tf {tys : List TypeId} {ms : List Nat} {w w' : World} {M n : Nat} {T : Nat → Nat} {f : Nat → Option Int} (h : PIdx w M n T f) (ht : TF tys ms w w') (hm : M ∉ ms) : PIdx w' M n T f := by
  obtain ⟨es, clk, js, h1, h2⟩ := h
  exact ⟨es, clk, js, (ht.maps M es clk h1 hm).trans h1, h2⟩
theorem PIdx.map {w : World} {M n : Nat} {T : Nat → Nat} {f : Nat → Option Int} (h : PIdx w M n T f) : ∃ es clk, w.heap[M]? = some (.map es clk) := by
  obtain ⟨es, clk, js, h1, h2⟩ := h
  exact ⟨es, clk, h1⟩

theorem Stat.tf {tys : List TypeId} {ms : List Nat} {w w' : World} {B k : Nat} {r : List Int} {T D : Nat → Nat} (h : Stat w B r k T D) (ht : TF tys ms w w') (h1 : B ∉ ms) (h2 : B + 3 ∉ ms) (h3 : ∀ t ∈ tys, t ∉ [72, 70, 94, 92, 88]) : Stat w' B r k T D := by
  have hn : ∀ t, t ∈ [72, 70, 94, 92, 88] → t ∉ tys := fun t hm ht => h3 t ht hm
  refine ⟨ht.at h.pk (hn _ (by decide)), ht.at h.sc (hn _ (by decide)), h.m1.tf ht h1, h.m2.tf ht h2, ?_⟩
  intro j hj
  obtain ⟨S, e, a1, a2, a3⟩ := h.dec j hj
  refine ⟨S, e, ht.at a1 (hn _ (by decide)), ht.at a2 (hn _ (by decide)), ?_⟩
  rcases a3 with a3 | ⟨a3, I, a4, a5⟩
  · exact Or.inl a3
  · exact Or.inr ⟨a3, I, a4, ht.at a5 (hn _ (by decide))⟩

theorem Nm.tf {tys : List TypeId} {ms : List Nat} {w w' : World} {B n : Nat} {T : Nat → Nat} {mk : Nat → Bool} (h : Nm w B n T mk) (ht : TF tys ms w w') (h1 : 82 ∉ tys) : Nm w' B n T mk := by
  refine ⟨fun j hj => ?_, h.inj, h.lo⟩
  obtain ⟨ty, a, b⟩ := h.blk j hj
  exact ⟨ty, ht.at a h1, b⟩

theorem Chk.tf {tys : List TypeId} {ms : List Nat} {w w' : World} {C base : Nat} {k0 k1 k2 : Value} {cyc : List (List Int)} (h : Chk w C base k0 k1 k2 cyc) (ht : TF tys ms w w') (h1 : 76 ∉ tys) (h2 : 22 ∉ tys) (h3 : 3 ∉ tys) : Chk w' C base k0 k1 k2 cyc := by
  obtain ⟨cyv, a, b⟩ := h
  exact ⟨cyv, ht.at a h1, b.tf ht h2 h3⟩

theorem TF.drewN {tys : List TypeId} {ms : List Nat} {w w' : World} (h : TF tys ms w w') (n : Nat) : TF tys ms w (w'.drewN n) := ⟨h.os, h.tape, h.output, h.size, h.cells, h.typ, h.maps⟩

/-- The numbers of the names on the path, the names that are done. -/
def colour (bl : Nat → Bool) (path : List Nat) (j : Nat) : Option Int := if j ∈ path then some (path.idxOf j) else if bl j then some (-1) else none

theorem colour_nil (bl : Nat → Bool) : colour bl [] = fun j => if bl j then some (-1) else none := by
  funext j; simp [colour]

theorem colour_snoc {bl : Nat → Bool} {path : List Nat} {t : Nat} (h : t ∉ path) : (fun j => if j = t then some ((path.length : Nat) : Int) else colour bl path j) = colour bl (path ++ [t]) := by
  funext j
  by_cases hj : j = t
  · subst hj
    simp [colour, List.idxOf_append, h]
  · by_cases hm : j ∈ path
    · simp [colour, hj, hm, List.idxOf_append]
    · simp [colour, hj, hm]

theorem colour_done (bl : Nat → Bool) (path : List Nat) : (fun j => if j ∈ path.take path.length then some (-1) else colour bl path j) = fun j => if (bl j || decide (j ∈ path)) then some (-1) else none := by
  funext j
  rw [List.take_length]
  by_cases hm : j ∈ path
  · simp [hm]
  · simp [colour, hm]

theorem take_step {path : List Nat} {k : Nat} (hk : k < path.length) (f : Nat → Option Int) : (fun j => if j = path[k] then some (-1) else (if j ∈ path.take k then some (-1) else f j)) = fun j => if j ∈ path.take (k + 1) then some (-1) else f j := by
  funext j
  rw [List.take_succ_eq_append_getElem hk]
  by_cases hj : j = path[k]
  · rw [if_pos hj, if_pos (by rw [List.mem_append]; exact Or.inr (by rw [hj]; exact List.mem_singleton.2 rfl))]
  · rw [if_neg hj]
    by_cases hm : j ∈ path.take k
    · rw [if_pos hm, if_pos (List.mem_append.2 (Or.inl hm))]
    · rw [if_neg hm, if_neg (fun h => by
        rcases List.mem_append.1 h with h | h
        · exact hm h
        · exact hj (List.mem_singleton.1 h))]

/-- One name is marked. -/
theorem Nm.mark {w : World} {B n : Nat} {T : Nat → Nat} {mk : Nat → Bool} (h : Nm w B n T mk) {t : Nat} (ht : t < n) (tt : TypeId) (x : Value) : Nm (w.setCell ⟨T t, 1, none⟩ (.iface tt x)) B n T (fun j => mk j || decide (j = t)) := by
  refine ⟨fun j hj => ?_, h.inj, h.lo⟩
  obtain ⟨ty, a, b⟩ := h.blk j hj
  by_cases hjt : j = t
  · subst hjt
    exact ⟨.iface tt x, by simpa using setCell_heap (i := 1) a (.iface tt x), Or.inr ⟨by simp, tt, x, rfl⟩⟩
  · refine ⟨ty, ?_, ?_⟩
    · rw [Below.heap_setCell _ _ _ _ (fun e => hjt (h.inj j t hj ht e))]
      exact a
    · simpa [hjt] using b

theorem ta_nil86 (w : World) : (Instr.typeAssert .nilIface 85 86 true).run Try.prog w = .ok (.tuple #[.pointer none, .bool false]) w := by kernel_rfl
theorem ta_86 (a : Addr) (w : World) : (Instr.typeAssert (.iface 86 (.pointer (some a))) 85 86 true).run Try.prog w = .ok (.tuple #[.pointer (some a), .bool true]) w := by kernel_rfl
theorem ta_78 (a : Addr) (w : World) : (Instr.typeAssert (.iface 78 (.pointer (some a))) 84 78 true).run Try.prog w = .ok (.tuple #[.pointer (some a), .bool true]) w := by kernel_rfl

def DcPost (r : List Int) (B M : Nat) (T : Nat → Nat) (k1 : Value) (bl mk : Nat → Bool) (cyc : List (List Int)) (i : Nat) (w w' : World) : Prop :=
  PIdx w' M r.length T (fun j => if (dcStep r (bl, mk, cyc) i).1 j then some (-1) else none) ∧ Nm w' B r.length T (dcStep r (bl, mk, cyc) i).2.1 ∧
    Chk w' (B + 4) B (.pointer (some ⟨B + 2, 0, none⟩)) k1 (.map (some (B + 3))) (dcStep r (bl, mk, cyc) i).2.2 ∧ TF [76, 22, 82] [M] w w' ∧ Below B w w'

theorem dc_done {r : List Int} {B M : Nat} {T : Nat → Nat} {k1 : Value} {bl mk mk' : Nat → Bool} {cyc cyc' : List (List Int)} {i : Nat} {w w3 w' : World} {path : List Nat} {res : Option Nat}
    (hw : dcWalk r bl (r.length + 1) i [] = (path, res)) (h1 : PIdx w' M r.length T (fun j => if j ∈ path.take path.length then some (-1) else colour bl path j))
    (h2 : Nm w3 B r.length T mk') (h3 : Chk w3 (B + 4) B (.pointer (some ⟨B + 2, 0, none⟩)) k1 (.map (some (B + 3))) cyc')
    (hres : (res = none ∧ mk' = mk ∧ cyc' = cyc) ∨ (∃ p, res = some p ∧ mk' = (fun j => mk j || decide (path[p]? = some j)) ∧ cyc' = cyc ++ [rot (path.drop p) (minIx (path.drop p))]))
    (h4 : TF [76, 22, 82] [M] w w3) (h5 : Below B w w3) (h6 : TF [] [M] w3 w') (h7 : Below B w3 w') : DcPost r B M T k1 bl mk cyc i w w' := by
  have e1 : (dcStep r (bl, mk, cyc) i).1 = fun j => bl j || decide (j ∈ path) := by simp only [dcStep, hw]
  have e2 : (dcStep r (bl, mk, cyc) i).2 = (mk', cyc') := by
    simp only [dcStep, hw]
    rcases hres with ⟨rfl, rfl, rfl⟩ | ⟨p, rfl, rfl, rfl⟩ <;> rfl
  refine ⟨?_, ?_, ?_, h4.trans (h6.mono (by simp) (by simp)), h5.trans h7⟩
  · rw [e1, ← colour_done]; exact h1
  · rw [e2]; exact h2.tf h6 (by decide)
  · rw [e2]; exact h3.tf h6 (by decide) (by decide) (by decide)

set_option maxHeartbeats 4000000 in
set_option maxRecDepth 100000 in
theorem directCycle_any (r : List Int) (B M : Nat) (T D : Nat → Nat) (k1 : Value) (bl mk : Nat → Bool) (cyc : List (List Int)) (i : Nat) (w : World) (hi : i < r.length) (h30 : r.length ≤ 30) (hcl : cyc.length ≤ 900)
    (hst : Stat w B r r.length T D) (hnm : Nm w B r.length T mk) (hck : Chk w (B + 4) B (.pointer (some ⟨B + 2, 0, none⟩)) k1 (.map (some (B + 3))) cyc)
    (hp : PIdx w M r.length T (fun j => if bl j then some (-1) else none)) (hM : B + 5 ≤ M) (hsz : B + 5 ≤ w.heap.size)
    (hf : Fine r) :
    Calls Try.prog 44 #[.pointer (some ⟨B + 4, 0, none⟩), .pointer (some ⟨T i, 0, none⟩), .map (some M)] w fun e w' => e = .returned (.tuple #[]) ∧ DcPost r B M T k1 bl mk cyc i w w' := by
  have Hst := Lib.hid hst; clear hst
  have Hnm := Lib.hid hnm; clear hnm
  have Hck := Lib.hid hck; clear hck
  have Hp := Lib.hid hp; clear hp
  have Hf := Lib.hid hf; clear hf
  go_enter Try.func44, Try.ntmps44
  go_wp2_with fail
  go_loopg [1, 6] (r.length + 1) (fun left tv v wr => ∃ (t : Nat) (path : List Nat), left + path.length = r.length + 1 ∧ tv = .pointer (some ⟨T t, 0, none⟩) ∧ t < r.length ∧
    wr.ownsRow w.heap.size 78 1 v path.length (path.map (ptrV T)) ∧ Hid (PIdx wr M r.length T (colour bl path)) ∧ Hid (path.Nodup ∧ ∀ j ∈ path, j < r.length ∧ bl j = false) ∧
    Hid (dcWalk r bl (r.length + 1) i [] = dcWalk r bl left t path) ∧ Hid (TF [] [M] w wr) ∧ Below B w wr)
  case atStart => exact ⟨i, [], by simp, rfl, hi, World.ownsRow_nil _ _ _ _, by rw [colour_nil]; exact Hp, ⟨by simp, by simp⟩, rfl, TF.refl _ _ _, Below.refl _ _⟩
  case round =>
    obtain ⟨t, path, hleft, rfl, htn, hown, HP, Hpath, Hwalk, HT, hB⟩ := hrel
    have hle : path.length ≤ r.length := nodup_le r.length path Hpath.out.1 (fun x hx => (Hpath.out.2 x hx).1)
    have Hown := Lib.hid hown
    obtain ⟨a6, cap6, hv6, hcap6, hcm6, hrow6⟩ := own_slice hown
    subst hv6
    clear hown
    have Hrow := Lib.hid hrow6; clear hrow6
    have hcm6' : cap6 ≤ 9223372036854775807 := by simp only [maxLen] at hcm6; omega
    clear hcm6
    obtain ⟨lf, rfl⟩ : ∃ lf, gk = lf + 1 := ⟨gk - 1, by omega⟩
    have Hst1 := Lib.hid (Hst.out.tf HT.out (by simp; omega) (by simp; omega) (by simp))
    have Hnm1 := Lib.hid (Hnm.out.tf HT.out (by simp))
    have Hck1 := Lib.hid (Hck.out.tf HT.out (by simp) (by simp) (by simp))
    have hlook := HP.out.look Hnm1.out.names htn
    by_cases hbl : bl t = true
    · have hnp : t ∉ path := fun hm => by rw [(Hpath.out.2 t hm).2] at hbl; cases hbl
      have hcol : colour bl path t = some (-1) := by simp [colour, hnp, hbl]
      rw [hcol] at hlook
      have hwk := Hwalk.out
      rw [dcWalk_black hbl] at hwk
      have Hwk := Lib.hid hwk; clear hwk hcol hnp hbl
      simp only [Option.getD_some, Option.isSome_some] at hlook
      go_wp2_with fail
      obtain ⟨w3, rfl⟩ : ∃ w3 : World, w3 = wr := ⟨_, rfl⟩
      have Hres : Hid ((none : Option Nat) = none ∧ mk = mk ∧ cyc = cyc) := ⟨rfl, rfl, rfl⟩
      have hB3 : Below B w w3 := hB
      obtain ⟨f3, hf3⟩ : ∃ f3, f3 = colour bl path := ⟨_, rfl⟩
      have HF3 := Lib.hid hf3
      have HP3 : Hid (PIdx w3 M r.length T f3) := by rw [hf3]; exact HP.out
      clear hf3
      go_loopw [96] (fun i wr => ∃ k : Nat, k ≤ path.length ∧ i = .int .i64 k ∧ PIdx wr M r.length T (fun j => if j ∈ path.take k then some (-1) else f3 j) ∧ TF [] [M] w3 wr ∧ Below B w3 wr) (fun i _ => path.length - (intOf i).toNat)
      case atStart => exact ⟨0, Nat.zero_le _, rfl, by simpa using HP3.out, TF.refl _ _ _, Below.refl _ _⟩
      case round =>
        obtain ⟨k, hk, rfl, hpk, htk, hbk⟩ := hrel
        have Hpk := Lib.hid hpk; clear hpk
        have Htk := Lib.hid htk; clear htk
        by_cases hlt : k < path.length
        · obtain ⟨b6, o6, rfl, hx6⟩ := Hrow.out k (ptrV T path[k]) (by rw [List.getElem?_map, List.getElem?_eq_getElem hlt]; rfl)
          have hx6 : w3.cell? ⟨b6, o6 + k, none⟩ = some (.pointer (some ⟨T path[k], 0, none⟩)) := hx6
          have hx7 : wr.cell? ⟨b6, o6 + k, none⟩ = some (.pointer (some ⟨T path[k], 0, none⟩)) := by
            rcases Hown.out.2 with ⟨hv, _⟩ | ⟨g, _, cur, hv, _, hh, _⟩
            · simp at hv
            · simp at hv
              obtain ⟨⟨rfl, rfl⟩, _⟩ := hv
              rw [World.cell?_of_block (w := w3) (Htk.out.cells _ _ _ _ hh (by simp))]
              exact hx6
          obtain ⟨wx, hst, hpx, hgx⟩ := Hpk.out.store (Hnm1.out.tf Htk.out (by simp)).names (Hpath.out.2 path[k] (List.getElem_mem hlt)).1 (-1)
          have htx : TF [] [M] w3 wx := Htk.out.trans (by obtain ⟨es, clk, hm⟩ := Hpk.out.map; exact TF.map hm hgx (by simp))
          have hbx : Below B w3 wx := hbk.trans ⟨hgx.os, hgx.tape, hgx.output, hgx.size, fun q hq => hgx.block q (by have := hbk.size; have := hB3.size; omega) (by simp; omega)⟩
          rw [take_step hlt] at hpx
          have Hpx := Lib.hid hpx; clear hpx hgx
          have Htx := Lib.hid htx; clear htx
          generalize path[k] = q at hx6 hx7 hst
          go_wp2_with fail
          go_roundw
          case rel => exact ⟨k + 1, by omega, by go_num, Hpx.out, Htx.out, hbx⟩
          case measure => simp [intOf]; omega
        · have hke : k = path.length := by omega
          have hpf := Hpk.out
          rw [hke, HF3.out] at hpf
          have Hfin := Lib.hid (dc_done Hwk.out hpf Hnm1.out Hck1.out (Or.inl Hres.out) (HT.out.mono (by simp) (by simp)) hB Htk.out hbk)
          clear hpf
          go_wp2_with fail
          go_end0
          exact ⟨rfl, Hfin.out⟩
    · have hbl' : bl t = false := by simpa using hbl
      clear hbl
      by_cases hm : t ∈ path
      · have hcol : colour bl path t = some (path.idxOf t) := by simp [colour, hm]
        rw [hcol] at hlook
        have hwk := Hwalk.out
        rw [dcWalk_found hbl' hm] at hwk
        have hix : path.idxOf t < path.length := List.idxOf_lt_length_iff.2 hm
        have hat : path[path.idxOf t]? = some t := by rw [List.getElem?_eq_getElem hix, List.getElem_idxOf hix]
        generalize path.idxOf t = s at hlook hwk hix hat
        have Hwk := Lib.hid hwk; clear hwk hcol hm hbl'
        have Hat := Lib.hid hat; clear hat
        have hlook : (Instr.lookup 111 (.map (some M)) (.pointer (some ⟨T t, 0, none⟩)) true).run Try.prog wr = .ok (.tuple #[.int .i64 (s : Int), .bool true]) wr := hlook
        obtain ⟨ty, hbt, _⟩ := Hnm1.out.blk t htn
        have Hbt : Hid (∀ o, (wr.alloc o).heap[T t]? = some (.cells #[.int .i64 (t : Int), ty] 82 (0, 0))) := fun o => by
          rw [Below.heap_alloc _ _ _ (Array.getElem?_eq_some_iff.1 hbt).1]; exact hbt
        clear hbt
        obtain ⟨b6, o6, ha6, _⟩ := Hrow.out 0 (ptrV T (path[0]'(by omega))) (by rw [List.getElem?_map, List.getElem?_eq_getElem (show 0 < path.length by omega)]; rfl)
        subst ha6
        have hs1 : s < cap6 := by omega
        go_wp2_with (first
          | (go_at_call 46; refine (invalid_any _).mono ?_; rintro e w' ⟨rfl, rfl⟩)
          | (go_at_call 50; refine (setType_any _ _ _ _ _ _ _ (Hbt.out _) rfl).mono ?_; rintro e w' ⟨rfl, rfl⟩))
        obtain ⟨w1, hw1⟩ : ∃ w1, w1 = (wr.alloc (.cells #[.bool true] 109)).setCell ⟨T t, 1, none⟩ (.iface 106 (.pointer (some ⟨wr.heap.size, 0, none⟩))) := ⟨_, rfl⟩
        have ht1 : TF [82] [] wr w1 := by rw [hw1]; exact (TF.alloc wr _).trans (TF.setCell (Hbt.out _) (by simp) _)
        have hb1 : Below B w w1 := by rw [hw1]; exact (hB.alloc (by have := hB.size; omega) _).setCell (Hnm1.out.lo t htn) _
        have hnm2 : Nm w1 B r.length T (fun j => mk j || decide (j = t)) := by
          rw [hw1]; exact (Hnm1.out.tf (TF.alloc (tys := []) (ms := []) wr _) (by simp)).mark htn _ _
        have hck2 := Hck1.out.tf ht1 (by simp) (by simp) (by simp)
        have hown2 := ht1.own Hown.out (by simp)
        rw [← hw1]
        clear hw1
        have Ht1 := Lib.hid ht1; clear ht1
        have Hnm2 := Lib.hid hnm2; clear hnm2
        have Hck2 := Lib.hid hck2; clear hck2
        have Hrow2 := Lib.hid (own_row hown2); clear hown2
        have Hjl : Hid ((path.drop s).length = path.length - s) := by show _ = _; simp
        obtain ⟨wo, rfl⟩ : ∃ wo : World, wo = wr := ⟨_, rfl⟩
        go_loopw [9, 33] (fun v i wx => ∃ k : Nat, k ≤ path.length - s ∧ i = .int .i64 k ∧ wx.ownsRow w1.heap.size 84 1 v k (((path.drop s).take k).map (objV T)) ∧ Below w1.heap.size w1 wx) (fun _ i _ => path.length - (intOf i).toNat)
        case atStart => exact ⟨0, Nat.zero_le _, rfl, World.ownsRow_nil _ _ _ _, Below.refl _ _⟩
        case round =>
          obtain ⟨k, hk, rfl, hown9, hnx⟩ := hrel
          have Hown9 := Lib.hid hown9
          by_cases hlt : k < path.length - s
          · have hsk : s + k < path.length := by omega
            obtain ⟨_, _, e6, hx6⟩ := Hrow2.out (s + k) (ptrV T path[s + k]) (by rw [List.getElem?_map, List.getElem?_eq_getElem hsk]; rfl)
            simp at e6
            obtain ⟨rfl, rfl⟩ := e6
            have hx6 : wr.cell? ⟨b6, o6 + s + k, none⟩ = some (.pointer (some ⟨T path[s + k], 0, none⟩)) := by
              rw [show o6 + s + k = o6 + (s + k) from by omega]
              exact cell_later hnx hx6
            have hgo : ((path.drop s).take (k + 1)).map (objV T) = ((path.drop s).take k).map (objV T) ++ [objV T path[s + k]] := by
              rw [List.take_succ_eq_append_getElem (by simp; omega), List.map_append]
              simp
            generalize path[s + k] = q at hx6 hgo
            have Hgo := Lib.hid hgo; clear hgo
            go_wp2_with (at_builtin; refine wpList_app1 _ rfl (.tmp 37) (.tmp 40) 74 rfl w1.heap.size 84 _ 16 Try.underlying74 Try.info84 rfl _ k _ _ rfl rfl Hown9.out rfl ?_ ?_ ?_ ?_)
            · unfold maxLen; omega
            · omega
            · exact hnx.size
            intro v' w2 hown10 _ hg2 _
            have hnx2 := below_grown hnx Hown9.out (Nat.le_refl _) hnx.size hg2
            have Hown10 := Lib.hid hown10; clear hown10
            go_wp2_with fail
            go_roundw
            case rel =>
              refine ⟨k + 1, by omega, by go_num, ?_, hnx2⟩
              rw [Hgo.out]
              have hz := Hown10.out
              simpa [objV, List.map_take, List.map_drop] using hz
            case measure => simp [intOf]; omega
          · obtain rfl : k = path.length - s := by omega
            obtain ⟨js, hjs⟩ : ∃ js, js = path.drop s := ⟨_, rfl⟩
            have hjl : js.length = path.length - s := by rw [hjs]; simp
            have hjn : js.Nodup := by rw [hjs]; exact Hpath.out.1.sublist (List.drop_sublist _ _)
            have hjm : ∀ j ∈ js, j ∈ path := fun j hj => List.mem_of_mem_drop (by rw [← hjs]; exact hj)
            have e9 : (path.drop s).take (path.length - s) = js := by rw [hjs, ← Hjl.out]; exact List.take_length
            rw [e9, ← hjl] at Hown9
            rw [← hjl]
            have Hjs := Lib.hid hjs
            have Hjn := Lib.hid hjn
            have Hjm := Lib.hid hjm
            have hj1 : 0 < js.length := by omega
            have hj2 : js.length ≤ 30 := by omega
            clear hjl hjs hjn hjm e9 hown9 hlt
            obtain ⟨a9, cap9, hv9, hcap9, hcm9, hrow9⟩ := own_slice Hown9.out
            subst hv9
            obtain ⟨b9, o9, ha9, _⟩ := hrow9 0 (objV T js[0]) (by rw [List.getElem?_map, List.getElem?_eq_getElem hj1]; rfl)
            subst ha9
            have Hrow9 := Lib.hid hrow9; clear hrow9
            have hcm9' : cap9 ≤ 9223372036854775807 := by simp only [maxLen] at hcm9; omega
            clear hcm9
            have hnm9 := Hnm2.out.tf (TF.below (tys := []) (ms := []) hnx) (by simp)
            have Hnm9 := Lib.hid hnm9
            have Hck9 := Lib.hid (Hck2.out.tf (TF.below (tys := []) (ms := []) hnx) (by simp) (by simp) (by simp))
            have HT9 : Hid (∀ j ∈ js, j ≤ 1000 ∧ ∃ t, wr.heap[T j]? = some (.cells #[.int .i64 (j : Int), t] 82 (0, 0))) := fun j hj => by
              have h := (Hpath.out.2 j (Hjm.out j hj)).1
              obtain ⟨ty, h1, _⟩ := hnm9.blk j h
              exact ⟨by omega, ty, h1⟩
            clear hnm9
            have hszr : w1.heap.size ≤ wr.heap.size := hnx.size
            have hszw : B ≤ wr.heap.size := by have := hb1.size; omega
            go_wp2_with (first
              | (go_at_call 51; refine (first_any _ b9 o9 cap9 js T hj1 hcap9 hcm9' Hrow9.out HT9.out).mono ?_; rintro e w' ⟨m, rfl, hmin, rfl⟩)
              | (go_at_call 47; refine (cycleError_any _ (B + 4) B b9 o9 cap9 js T _ _ _ _ cyc Hck9.out (by exact (show MinAt js _ from by assumption).1) (by omega) (by omega) hszw (by omega) Hrow9.out (fun j hj => (HT9.out j hj).2)).mono ?_; rintro e w3 ⟨rfl, hck3, ht3, hb3⟩))
            have em : minIx js = m := minAt_eq Hjn.out hmin
            have Hnm3 := Lib.hid (Hnm9.out.tf ht3 (by simp))
            have htc : TF [76, 22, 82] [] wo w3 := ((Ht1.out.mono (by simp) (by simp)).trans (TF.below hnx)).trans (ht3.mono (by simp) (by simp))
            have HTall := Lib.hid ((HT.out.mono (tys' := [76, 22, 82]) (by simp) (fun _ h => h)).trans (htc.mono (fun _ h => h) (by simp)))
            have hBall : Below B w w3 := (hb1.trans (hnx.mono (by have := hb1.size; omega))).trans hb3
            have HP3' := Lib.hid (HP.out.tf htc (by simp))
            have hown3 := htc.own Hown.out (by simp)
            have Hown3 := Lib.hid hown3
            have Hrow3 := Lib.hid (own_row hown3)
            have hmk : (fun j => mk j || decide (j = t)) = (fun j => mk j || decide (path[s]? = some j)) := by
              funext j
              rw [Hat.out]
              by_cases h : j = t
              · subst h; simp
              · have h' : ¬ t = j := fun e => h e.symm
                simp [h, h']
            have Hres := Lib.hid (show (∃ p, some s = some p ∧ (fun j => mk j || decide (j = t)) = (fun j => mk j || decide (path[p]? = some j)) ∧ cyc ++ [rot js m] = cyc ++ [rot (path.drop p) (minIx (path.drop p))]) from ⟨s, rfl, hmk, by rw [← Hjs.out, em]⟩)
            have Hck3 := Lib.hid hck3
            clear hmk htc hown3 ht3 hb3 em hmin hck3
            have hB3 : Below B w w3 := hBall
            obtain ⟨f3, hf3⟩ : ∃ f3, f3 = colour bl path := ⟨_, rfl⟩
            have HF3 := Lib.hid hf3
            have HP3 : Hid (PIdx w3 M r.length T f3) := by rw [hf3]; exact HP3'.out
            clear hf3
            go_loopw [96] (fun i wr => ∃ k : Nat, k ≤ path.length ∧ i = .int .i64 k ∧ PIdx wr M r.length T (fun j => if j ∈ path.take k then some (-1) else f3 j) ∧ TF [] [M] w3 wr ∧ Below B w3 wr) (fun i _ => path.length - (intOf i).toNat)
            case atStart => exact ⟨0, Nat.zero_le _, rfl, by simpa using HP3.out, TF.refl _ _ _, Below.refl _ _⟩
            case round =>
              obtain ⟨k, hk, rfl, hpk, htk, hbk⟩ := hrel
              have Hpk := Lib.hid hpk; clear hpk
              have Htk := Lib.hid htk; clear htk
              by_cases hlt : k < path.length
              · obtain ⟨_, _, e6, hx6⟩ := Hrow3.out k (ptrV T path[k]) (by rw [List.getElem?_map, List.getElem?_eq_getElem hlt]; rfl)
                simp at e6
                obtain ⟨rfl, rfl⟩ := e6
                have hx6 : w3.cell? ⟨b6, o6 + k, none⟩ = some (.pointer (some ⟨T path[k], 0, none⟩)) := hx6
                have hx7 : wr.cell? ⟨b6, o6 + k, none⟩ = some (.pointer (some ⟨T path[k], 0, none⟩)) := by
                  rcases Hown3.out.2 with ⟨hv, _⟩ | ⟨g, _, cur, hv, _, hh, _⟩
                  · simp at hv
                  · simp at hv
                    obtain ⟨⟨rfl, rfl⟩, _⟩ := hv
                    rw [World.cell?_of_block (w := w3) (Htk.out.cells _ _ _ _ hh (by simp))]
                    exact hx6
                obtain ⟨wx, hst, hpx, hgx⟩ := Hpk.out.store (Hnm3.out.tf Htk.out (by simp)).names (Hpath.out.2 path[k] (List.getElem_mem hlt)).1 (-1)
                have htx : TF [] [M] w3 wx := Htk.out.trans (by obtain ⟨es, clk, hm⟩ := Hpk.out.map; exact TF.map hm hgx (by simp))
                have hbx : Below B w3 wx := hbk.trans ⟨hgx.os, hgx.tape, hgx.output, hgx.size, fun q hq => hgx.block q (by have := hbk.size; have := hB3.size; omega) (by simp; omega)⟩
                rw [take_step hlt] at hpx
                have Hpx := Lib.hid hpx; clear hpx hgx
                have Htx := Lib.hid htx; clear htx
                generalize path[k] = q at hx6 hx7 hst
                go_wp2_with fail
                go_roundw
                case rel => exact ⟨k + 1, by omega, by go_num, Hpx.out, Htx.out, hbx⟩
                case measure => simp [intOf]; omega
              · have hke : k = path.length := by omega
                have hpf := Hpk.out
                rw [hke, HF3.out] at hpf
                have Hfin := Lib.hid (dc_done Hwk.out hpf Hnm3.out Hck3.out (Or.inr Hres.out) HTall.out hBall Htk.out hbk)
                clear hpf
                go_wp2_with fail
                go_end0
                exact ⟨rfl, Hfin.out⟩
      · have hcol : colour bl path t = none := by simp [colour, hm, hbl']
        rw [hcol] at hlook
        have hlook : (Instr.lookup 111 (.map (some M)) (.pointer (some ⟨T t, 0, none⟩)) true).run Try.prog wr = .ok (.tuple #[.int .i64 0, .bool false]) wr := hlook
        obtain ⟨wa, hst, hpa, hga⟩ := HP.out.store Hnm1.out.names htn ((path.length : Nat) : Int)
        rw [colour_snoc hm] at hpa
        have hta : TF [] [M] wr wa := by obtain ⟨es, clk, hm'⟩ := HP.out.map; exact TF.map hm' hga (by simp)
        have hba : Below B wr wa := ⟨hga.os, hga.tape, hga.output, hga.size, fun q hq => hga.block q (by have := hB.size; omega) (by simp; omega)⟩
        have hnd : (path ++ [t]).Nodup := by
          rw [List.nodup_append]
          exact ⟨Hpath.out.1, by simp, by intro a ha b hb; simp at hb; subst hb; exact fun e => hm (e ▸ ha)⟩
        have hpt : ∀ j ∈ path ++ [t], j < r.length ∧ bl j = false := by
          intro j hj
          rcases List.mem_append.1 hj with h | h
          · exact Hpath.out.2 j h
          · simp at h; subst h; exact ⟨htn, hbl'⟩
        have hle2 : path.length + 1 ≤ r.length := by
          have := nodup_le r.length (path ++ [t]) hnd (fun x hx => (hpt x hx).1)
          simpa using this
        obtain ⟨p2, hp2⟩ : ∃ p2, p2 = path ++ [t] := ⟨_, rfl⟩
        have hl2 : p2.length = path.length + 1 := by rw [hp2]; simp
        have Hpath2 : Hid ((path ++ [t]).Nodup ∧ ∀ j ∈ path ++ [t], j < r.length ∧ bl j = false) := ⟨hnd, hpt⟩
        rw [← hp2] at Hpath2
        clear hnd hpt
        have Howna := Lib.hid (hta.own Hown.out (by simp))
        have Hta := Lib.hid (HT.out.trans hta); clear hta
        have hbw := hB.trans hba
        have Hpa := Lib.hid hpa; clear hpa
        have hszB : B ≤ wr.heap.size := by have := hB.size; omega
        have Hl2 := Lib.hid hl2; clear hl2
        have hdw : Hid ((r.getD t (-1) < 0 → dcWalk r bl (r.length + 1) i [] = (path ++ [t], none)) ∧ (¬ r.getD t (-1) < 0 → dcWalk r bl (r.length + 1) i [] = dcWalk r bl lf (r.getD t (-1)).toNat (path ++ [t]))) :=
          ⟨fun h => by rw [Hwalk.out]; exact dcWalk_end hbl' hm h, fun h => by rw [Hwalk.out]; exact dcWalk_on hbl' hm h⟩
        have Hga := Lib.hid hga; clear hga
        rw [← hp2] at hdw Hpa
        have Hp2 := Lib.hid hp2
        clear hcol hm hbl' hp2
        go_wp2_with (at_builtin; refine wpList_app1 _ rfl (.tmp 52) (.tmp 54) 77 rfl w.heap.size 78 _ 8 Try.underlying77 Try.info78 rfl _ path.length _ _ rfl rfl Howna.out rfl ?_ ?_ ?_ ?_)
        · unfold maxLen; omega
        · omega
        · exact Hta.out.size
        intro v' wb hownb holdb hgb _
        have htb : TF [] [M] w wb := TF.new Hta.out Howna.out (Nat.le_refl _) hgb
        have hbb : Below B w wb := below_grown hbw Howna.out (by omega) (by have := hbw.size; omega) hgb
        have htab : TF [78] [] wa wb := TF.grown Howna.out holdb hgb (by simp)
        have Hpb := Lib.hid (Hpa.out.tf htab (by simp))
        have Hstb := Lib.hid (Hst.out.tf htb (by simp; omega) (by simp; omega) (by simp))
        have Hnmb := Lib.hid (Hnm.out.tf htb (by simp))
        have Hckb := Lib.hid (Hck.out.tf htb (by simp) (by simp) (by simp))
        have Htb := Lib.hid htb
        obtain ⟨a7, cap7, hv7, _, _, hrow7⟩ := own_slice hownb
        subst hv7
        have hownb2 : wb.ownsRow w.heap.size 78 1 (.slice a7 p2.length cap7) p2.length (p2.map (ptrV T)) := by
          rw [Hl2.out, Hp2.out]; simpa [ptrV] using hownb
        rw [← Hl2.out]
        have hp30 : p2.length ≤ 30 := by rw [Hl2.out]; omega
        have Hownb := Lib.hid hownb2
        have Hrowb := Lib.hid (own_row hownb2)
        clear hownb hownb2 hrow7 htab htb holdb hgb
        obtain ⟨cyv, hckb1, _⟩ := Hckb.out
        have c0 : wb.cell? ⟨B + 4, 0, none⟩ = some (.pointer (some ⟨B + 2, 0, none⟩)) := cell_of hckb1 0
        have c2 : wb.cell? ⟨B + 4, 2, none⟩ = some (.map (some (B + 3))) := cell_of hckb1 2
        clear hckb1
        have c3 : wb.cell? ⟨B + 2, 0, none⟩ = some (.pointer (some ⟨B + 1, 0, none⟩)) := cell_of Hstb.out.pk 0
        have hlk := Hstb.out.m2.look Hnmb.out.names htn
        obtain ⟨S, e, hd1, hd2, hd3⟩ := (Hstb.out.dec t htn)
        have c4 : wb.cell? ⟨D t, 0, none⟩ = some (.pointer (some ⟨S, 0, none⟩)) := cell_of hd1 0
        have c5 : wb.cell? ⟨S, 0, none⟩ = some e := cell_of hd2 0
        clear hd1 hd2
        have Hd3 := Lib.hid hd3; clear hd3
        rcases Hd3.out with ⟨hneg, rfl⟩ | ⟨hpos, I, rfl, hI⟩
        · have hwk := hdw.out.1 hneg
          have Hwk := Lib.hid hwk
          clear hwk hneg Hd3
          have tn := ta_nil86
          go_wp2_with fail
          have Hres : Hid ((none : Option Nat) = none ∧ mk = mk ∧ cyc = cyc) := ⟨rfl, rfl, rfl⟩
          have hB3 : Below B w wb := hbb
          obtain ⟨f3, hf3⟩ : ∃ f3, f3 = colour bl p2 := ⟨_, rfl⟩
          have HF3 := Lib.hid hf3
          have HP3 : Hid (PIdx wb M r.length T f3) := by rw [hf3]; exact Hpb.out
          clear hf3
          go_loopw [96] (fun i wr => ∃ k : Nat, k ≤ p2.length ∧ i = .int .i64 k ∧ PIdx wr M r.length T (fun j => if j ∈ p2.take k then some (-1) else f3 j) ∧ TF [] [M] wb wr ∧ Below B wb wr) (fun i _ => p2.length - (intOf i).toNat)
          case atStart => exact ⟨0, Nat.zero_le _, rfl, by simpa using HP3.out, TF.refl _ _ _, Below.refl _ _⟩
          case round =>
            obtain ⟨k, hk, rfl, hpk, htk, hbk⟩ := hrel
            have Hpk := Lib.hid hpk; clear hpk
            have Htk := Lib.hid htk; clear htk
            by_cases hlt : k < p2.length
            · obtain ⟨b6, o6, rfl, hx6⟩ := Hrowb.out k (ptrV T p2[k]) (by rw [List.getElem?_map, List.getElem?_eq_getElem hlt]; rfl)
              have hx6 : wb.cell? ⟨b6, o6 + k, none⟩ = some (.pointer (some ⟨T p2[k], 0, none⟩)) := hx6
              have hx7 : wr.cell? ⟨b6, o6 + k, none⟩ = some (.pointer (some ⟨T p2[k], 0, none⟩)) := by
                rcases Hownb.out.2 with ⟨hv, _⟩ | ⟨g, _, cur, hv, _, hh, _⟩
                · simp at hv
                · simp at hv
                  obtain ⟨⟨rfl, rfl⟩, _⟩ := hv
                  rw [World.cell?_of_block (w := wb) (Htk.out.cells _ _ _ _ hh (by simp))]
                  exact hx6
              obtain ⟨wx, hst, hpx, hgx⟩ := Hpk.out.store (Hnmb.out.tf Htk.out (by simp)).names (Hpath2.out.2 p2[k] (List.getElem_mem hlt)).1 (-1)
              have htx : TF [] [M] wb wx := Htk.out.trans (by obtain ⟨es, clk, hm⟩ := Hpk.out.map; exact TF.map hm hgx (by simp))
              have hbx : Below B wb wx := hbk.trans ⟨hgx.os, hgx.tape, hgx.output, hgx.size, fun q hq => hgx.block q (by have := hbk.size; have := hB3.size; omega) (by simp; omega)⟩
              rw [take_step hlt] at hpx
              have Hpx := Lib.hid hpx; clear hpx hgx
              have Htx := Lib.hid htx; clear htx
              generalize p2[k] = q at hx6 hx7 hst
              go_wp2_with fail
              go_roundw
              case rel => exact ⟨k + 1, by omega, by go_num, Hpx.out, Htx.out, hbx⟩
              case measure => simp [intOf]; omega
            · have hke : k = p2.length := by omega
              have hpf := Hpk.out
              rw [hke, HF3.out] at hpf
              have Hfin := Lib.hid (dc_done Hwk.out hpf Hnmb.out Hckb.out (Or.inl Hres.out) (Htb.out.mono (by simp) (by simp)) hbb Htk.out hbk)
              clear hpf
              go_wp2_with fail
              go_end0
              exact ⟨rfl, Hfin.out⟩
        · have hwk := hdw.out.2 (by omega)
          have hbd : r.getD t (-1) < r.length := by
            have := Hf.out t _ (List.getElem?_eq_getElem htn)
            rw [List.getD_eq_getElem?_getD, List.getElem?_eq_getElem htn]
            exact this.2
          obtain ⟨m, hm⟩ := Int.eq_ofNat_of_zero_le hpos
          rw [hm] at hI hwk hbd
          have c6 : wb.cell? ⟨I, 0, none⟩ = some (.int .i64 (m : Int)) := cell_of hI 0
          have hmn : m < r.length := by omega
          rw [Int.toNat_natCast] at hwk
          have Hwk := Lib.hid hwk
          clear hwk hI hm hpos Hd3 hbd hdw
          have t86 := ta_86
          have t78 := ta_78
          have hlw := fun (n : Nat) => lookup_any (wb.drewN n) (B + 1) B r.length T m Hstb.out.sc Hstb.out.m1 hmn
          have Hlw := Lib.hid hlw; clear hlw
          go_wp2_with fail
          go_quiet ((go_at_call 52; exact Calls.quiet_of_same ((Hlw.out _).mono fun _ _ h => ⟨h.1, h.2.symm⟩)))
          have hleft2 : lf + p2.length = r.length + 1 := by rw [Hl2.out]; omega
          go_wp2_with fail
          go_roundg lf
          case measure => omega
          case rel => exact ⟨m, p2, hleft2, rfl, hmn, Hownb.out, Hpb, Hpath2, Hwk, Htb.out.drewN _, hbb.trans (below_refl_drewN _ _ _)⟩

end Go.Proofs.Ytnaedpfaeioolaa
