/- Types in memory: how the package's types of a tree lie in the heap; type assertions on them; the contracts of Unalias and makeObjList. Printed by gen_Vh.py. -/
import Derived.Test.YtnaedpfaeioolaaVp
import Derived.Test.YtnaedpfaeioolaaD7
import Derived.LaidEqlPtr
import Derived.Laws.OwnMore
namespace Go.Proofs.Ytnaedpfaeioolaa
open Go.RowKit
set_option linter.unusedVariables false

/-- A pointer to a block's first cell. -/
def pv (b : Nat) : Value := .pointer (some ⟨b, 0, none⟩)
/-- The type that a declaration's name stands for. -/
def nv (al : Nat → Bool) (NB : Nat → Nat) (n : Nat) : Value := .iface (if al n = true then 97 else 100) (.pointer (some ⟨NB n, 0, none⟩))

/-- Kind, the pointer's type, the type pointed to, the type of its row's elements, the type that these point to (0: none). -/
def rowTab : List (Int × Nat × Nat × Nat × Nat) := [(4, 120, 123, 124, 126), (5, 127, 129, 80, 0), (6, 130, 133, 134, 135)]
def tyGood : List Nat := [109, 119, 126, 135, 123, 129, 133, 124, 134, 80]

/-- A type of the package that stands for a tree (at 0), or a pointer to a cell of the given type that has one. -/
inductive TyV (al : Nat → Bool) (NB : Nat → Nat) (w : World) (S : Nat → Prop) : TypeId → Value → T → Prop
  | named (n : Int) (es : List T) : TyV al NB w S 0 (nv al NB n.toNat) (.mk 1 n es)
  | other (a : Option Addr) (n : Int) (es : List T) : TyV al NB w S 0 (.iface 114 (.pointer a)) (.mk 2 n es)
  | basic (b : Nat) (n : Int) (es : List T) (h : w.heap[b]? = some (.cells #[.bool false] 109 (0, 0))) (hS : S b) : TyV al NB w S 0 (.iface 106 (.pointer (some ⟨b, 0, none⟩))) (.mk 0 n es)
  | elem (e : TypeId) (b : Nat) (v : Value) (t : T) (he : e = 119 ∨ e = 126 ∨ e = 135) (h : w.heap[b]? = some (.cells #[v] e (0, 0))) (hS : S b) (hv : TyV al NB w S 0 v t) : TyV al NB w S e (.pointer (some ⟨b, 0, none⟩)) t
  | arr (x : Value) (n : Int) (t : T) (h : TyV al NB w S 119 x t) : TyV al NB w S 0 (.iface 117 x) (.mk 3 n [t])
  | row (k n : Int) (ity bty rty ety : Nat) (b : Nat) (sv : Value) (xs : List Value) (ts : List T) (hk : (k, ity, bty, rty, ety) ∈ rowTab) (hb : w.heap[b]? = some (.cells #[sv] bty (0, 0))) (hSb : S b)
      (own : w.ownsRow 0 rty 1 sv ts.length xs) (hSr : ∀ g, sv.ownBlock = some g → S g)
      (he : ∀ (i : Nat) (x : Value) (t : T), xs[i]? = some x → ts[i]? = some t → TyV al NB w S ety x t) : TyV al NB w S 0 (.iface ity (.pointer (some ⟨b, 0, none⟩))) (.mk k n ts)

section
variable {al : Nat → Bool} {NB : Nat → Nat} {w w' : World} {S S' : Nat → Prop} {e : TypeId} {v : Value} {t : T}

theorem heap_lt {b : Nat} {o : Obj} (h : w.heap[b]? = some o) : b < w.heap.size := (Array.getElem?_eq_some_iff.1 h).1

theorem own_keep {base : Nat} {e : TypeId} {size n : Nat} {v : Value} {xs : List Value} (h : w.ownsRow base e size v n xs) (hk : ∀ g, v.ownBlock = some g → w'.heap[g]? = w.heap[g]?) : w'.ownsRow base e size v n xs := by
  refine ⟨h.1, ?_⟩
  rcases h.2 with hn | ⟨g, cap, cur, rfl, hg, hh, r⟩
  · exact Or.inl hn
  · exact Or.inr ⟨g, cap, cur, rfl, hg, (hk g rfl).trans hh, r⟩

theorem TyV.keep (h : TyV al NB w S e v t) (hk : ∀ b, S b → b < w.heap.size → w'.heap[b]? = w.heap[b]?) : TyV al NB w' S e v t := by
  induction h with
  | named n es => exact .named n es
  | other a n es => exact .other a n es
  | basic b n es h hS => exact .basic b n es ((hk b hS (heap_lt h)).trans h) hS
  | elem e b v t he h hS hv ih => exact .elem e b v t he ((hk b hS (heap_lt h)).trans h) hS ih
  | arr x n t h ih => exact .arr x n t ih
  | row k n ity bty rty ety b sv xs ts hkk hb hSb own hSr he ih =>
    exact .row k n ity bty rty ety b sv xs ts hkk ((hk b hSb (heap_lt hb)).trans hb) hSb (own_keep own fun g hg => hk g (hSr g hg) (own.lt g hg).2) hSr ih

theorem TyV.mono (h : TyV al NB w S e v t) (hs : ∀ b, S b → b < w.heap.size → S' b) : TyV al NB w S' e v t := by
  induction h with
  | named n es => exact .named n es
  | other a n es => exact .other a n es
  | basic b n es h hS => exact .basic b n es h (hs b hS (heap_lt h))
  | elem e b v t he h hS hv ih => exact .elem e b v t he h (hs b hS (heap_lt h)) ih
  | arr x n t h ih => exact .arr x n t ih
  | row k n ity bty rty ety b sv xs ts hkk hb hSb own hSr he ih =>
    exact .row k n ity bty rty ety b sv xs ts hkk hb (hs b hSb (heap_lt hb)) own (fun g hg => hs g (hSr g hg) (own.lt g hg).2) ih

theorem TyV.typed (h : TyV al NB w S e v t) : TyV al NB w (fun b => S b ∧ ∃ c ty, w.heap[b]? = some (.cells c ty (0, 0)) ∧ ty ∈ tyGood) e v t := by
  induction h with
  | named n es => exact .named n es
  | other a n es => exact .other a n es
  | basic b n es h hS => exact .basic b n es h ⟨hS, _, _, h, by decide⟩
  | elem e b v t he h hS hv ih => exact .elem e b v t he h ⟨hS, _, _, h, by rcases he with rfl | rfl | rfl <;> decide⟩ ih
  | arr x n t h ih => exact .arr x n t ih
  | row k n ity bty rty ety b sv xs ts hkk hb hSb own hSr he ih =>
    have hty : bty ∈ tyGood ∧ rty ∈ tyGood := by
      simp [rowTab] at hkk
      rcases hkk with ⟨_, _, rfl, rfl, _⟩ | ⟨_, _, rfl, rfl, _⟩ | ⟨_, _, rfl, rfl, _⟩ <;> decide
    refine .row k n ity bty rty ety b sv xs ts hkk hb ⟨hSb, _, _, hb, hty.1⟩ own (fun g hg => ⟨hSr g hg, ?_⟩) ih
    rcases own.2 with ⟨rfl, _⟩ | ⟨g', cap, cur, rfl, _, hh, _⟩
    · simp [Value.ownBlock] at hg
    · simp [Value.ownBlock] at hg
      subst hg
      exact ⟨_, _, hh, hty.2⟩

theorem TyV.tf {tys : List TypeId} {ms : List Nat} (h : TyV al NB w S e v t) (ht : TF tys ms w w') (hd : ∀ ty ∈ tyGood, ty ∉ tys) : TyV al NB w' S e v t :=
  (h.typed.keep fun b hb _ => by obtain ⟨_, c, ty, h1, h2⟩ := hb; exact ht.cells b c ty _ h1 (hd ty h2)).mono fun b hb _ => hb.1

theorem TyV.ext (h : TyV al NB w S e v t) (hb : Below w.heap.size w w') : TyV al NB w' S e v t := h.keep fun b _ hlt => hb.block b hlt

theorem TyV.any (h : TyV al NB w S e v t) : TyV al NB w Any e v t := h.mono fun _ _ _ => trivial

theorem TyV.inv1 {n : Int} {es : List T} (h : TyV al NB w S 0 v (.mk 1 n es)) : v = nv al NB n.toNat := by
  cases h with
  | named => rfl
  | elem e b v t he h hS hv => simp at he
  | row k n ity bty rty ety b sv xs ts hk => simp [rowTab] at hk
theorem TyV.inv2 {n : Int} {es : List T} (h : TyV al NB w S 0 v (.mk 2 n es)) : ∃ a, v = .iface 114 (.pointer a) := by
  cases h with
  | other a => exact ⟨a, rfl⟩
  | elem e b v t he h hS hv => simp at he
  | row k n ity bty rty ety b sv xs ts hk => simp [rowTab] at hk
theorem TyV.inv0 {n : Int} {es : List T} (h : TyV al NB w S 0 v (.mk 0 n es)) : ∃ b, v = .iface 106 (.pointer (some ⟨b, 0, none⟩)) ∧ w.heap[b]? = some (.cells #[.bool false] 109 (0, 0)) := by
  cases h with
  | basic b n es h hS => exact ⟨b, rfl, h⟩
  | elem e b v t he h hS hv => simp at he
  | row k n ity bty rty ety b sv xs ts hk => simp [rowTab] at hk
theorem TyV.inv3 {n : Int} {es : List T} (h : TyV al NB w S 0 v (.mk 3 n es)) : ∃ b x t, es = [t] ∧ v = .iface 117 (.pointer (some ⟨b, 0, none⟩)) ∧ w.heap[b]? = some (.cells #[x] 119 (0, 0)) ∧ TyV al NB w S 0 x t := by
  cases h with
  | arr x n t h =>
    generalize he : (119 : Nat) = e at h
    cases h with
    | elem e b v t he' h hS hv => subst he; exact ⟨b, v, t, rfl, rfl, h, hv⟩
    | named => simp at he
    | other => simp at he
    | basic => simp at he
    | arr => simp at he
    | row => simp at he
  | elem e b v t he h hS hv => simp at he
  | row k n ity bty rty ety b sv xs ts hk => simp [rowTab] at hk
theorem TyV.invR {k n : Int} {es : List T} (hk : 4 ≤ k) (h : TyV al NB w S 0 v (.mk k n es)) : ∃ ity bty rty ety b sv xs, (k, ity, bty, rty, ety) ∈ rowTab ∧ v = .iface ity (.pointer (some ⟨b, 0, none⟩)) ∧
    w.heap[b]? = some (.cells #[sv] bty (0, 0)) ∧ w.ownsRow 0 rty 1 sv es.length xs ∧ ∀ (i : Nat) (x : Value) (t : T), xs[i]? = some x → es[i]? = some t → TyV al NB w S ety x t := by
  cases h with
  | row _ _ ity bty rty ety b sv xs ts hkk hb hSb own hSr he => exact ⟨ity, bty, rty, ety, b, sv, xs, hkk, rfl, hb, own, he⟩
  | elem e b v t he h hS hv => simp at he
  | named => omega
  | other => omega
  | basic => omega
  | arr => omega
theorem TyV.invE (he : e = 126 ∨ e = 135) (h : TyV al NB w S e v t) : ∃ b x, v = .pointer (some ⟨b, 0, none⟩) ∧ w.heap[b]? = some (.cells #[x] e (0, 0)) ∧ TyV al NB w S 0 x t := by
  cases h with
  | elem e b v t he' h hS hv => exact ⟨b, v, rfl, h, hv⟩
  | named => simp at he
  | other => simp at he
  | basic => simp at he
  | arr => simp at he
  | row => simp at he
end

theorem ta_97_97 (a : Addr) (w : World) : (Instr.typeAssert (.iface 97 (.pointer (some a))) 80 97 true).run Try.prog w = .ok (.tuple #[.pointer (some a), .bool true]) w := by kernel_rfl
theorem ta_97_100 (a : Addr) (w : World) : (Instr.typeAssert (.iface 97 (.pointer (some a))) 80 100 true).run Try.prog w = .ok (.tuple #[.pointer (none), .bool false]) w := by kernel_rfl
theorem ta_97_106 (a : Addr) (w : World) : (Instr.typeAssert (.iface 97 (.pointer (some a))) 80 106 true).run Try.prog w = .ok (.tuple #[.pointer (none), .bool false]) w := by kernel_rfl
theorem ta_97_117 (a : Addr) (w : World) : (Instr.typeAssert (.iface 97 (.pointer (some a))) 80 117 true).run Try.prog w = .ok (.tuple #[.pointer (none), .bool false]) w := by kernel_rfl
theorem ta_97_120 (a : Addr) (w : World) : (Instr.typeAssert (.iface 97 (.pointer (some a))) 80 120 true).run Try.prog w = .ok (.tuple #[.pointer (none), .bool false]) w := by kernel_rfl
theorem ta_97_127 (a : Addr) (w : World) : (Instr.typeAssert (.iface 97 (.pointer (some a))) 80 127 true).run Try.prog w = .ok (.tuple #[.pointer (none), .bool false]) w := by kernel_rfl
theorem ta_97_130 (a : Addr) (w : World) : (Instr.typeAssert (.iface 97 (.pointer (some a))) 80 130 true).run Try.prog w = .ok (.tuple #[.pointer (none), .bool false]) w := by kernel_rfl
theorem ta_100_97 (a : Addr) (w : World) : (Instr.typeAssert (.iface 100 (.pointer (some a))) 80 97 true).run Try.prog w = .ok (.tuple #[.pointer (none), .bool false]) w := by kernel_rfl
theorem ta_100_100 (a : Addr) (w : World) : (Instr.typeAssert (.iface 100 (.pointer (some a))) 80 100 true).run Try.prog w = .ok (.tuple #[.pointer (some a), .bool true]) w := by kernel_rfl
theorem ta_100_106 (a : Addr) (w : World) : (Instr.typeAssert (.iface 100 (.pointer (some a))) 80 106 true).run Try.prog w = .ok (.tuple #[.pointer (none), .bool false]) w := by kernel_rfl
theorem ta_100_117 (a : Addr) (w : World) : (Instr.typeAssert (.iface 100 (.pointer (some a))) 80 117 true).run Try.prog w = .ok (.tuple #[.pointer (none), .bool false]) w := by kernel_rfl
theorem ta_100_120 (a : Addr) (w : World) : (Instr.typeAssert (.iface 100 (.pointer (some a))) 80 120 true).run Try.prog w = .ok (.tuple #[.pointer (none), .bool false]) w := by kernel_rfl
theorem ta_100_127 (a : Addr) (w : World) : (Instr.typeAssert (.iface 100 (.pointer (some a))) 80 127 true).run Try.prog w = .ok (.tuple #[.pointer (none), .bool false]) w := by kernel_rfl
theorem ta_100_130 (a : Addr) (w : World) : (Instr.typeAssert (.iface 100 (.pointer (some a))) 80 130 true).run Try.prog w = .ok (.tuple #[.pointer (none), .bool false]) w := by kernel_rfl
theorem ta_106_97 (a : Addr) (w : World) : (Instr.typeAssert (.iface 106 (.pointer (some a))) 80 97 true).run Try.prog w = .ok (.tuple #[.pointer (none), .bool false]) w := by kernel_rfl
theorem ta_106_100 (a : Addr) (w : World) : (Instr.typeAssert (.iface 106 (.pointer (some a))) 80 100 true).run Try.prog w = .ok (.tuple #[.pointer (none), .bool false]) w := by kernel_rfl
theorem ta_106_106 (a : Addr) (w : World) : (Instr.typeAssert (.iface 106 (.pointer (some a))) 80 106 true).run Try.prog w = .ok (.tuple #[.pointer (some a), .bool true]) w := by kernel_rfl
theorem ta_106_117 (a : Addr) (w : World) : (Instr.typeAssert (.iface 106 (.pointer (some a))) 80 117 true).run Try.prog w = .ok (.tuple #[.pointer (none), .bool false]) w := by kernel_rfl
theorem ta_106_120 (a : Addr) (w : World) : (Instr.typeAssert (.iface 106 (.pointer (some a))) 80 120 true).run Try.prog w = .ok (.tuple #[.pointer (none), .bool false]) w := by kernel_rfl
theorem ta_106_127 (a : Addr) (w : World) : (Instr.typeAssert (.iface 106 (.pointer (some a))) 80 127 true).run Try.prog w = .ok (.tuple #[.pointer (none), .bool false]) w := by kernel_rfl
theorem ta_106_130 (a : Addr) (w : World) : (Instr.typeAssert (.iface 106 (.pointer (some a))) 80 130 true).run Try.prog w = .ok (.tuple #[.pointer (none), .bool false]) w := by kernel_rfl
theorem ta_114_97 (a : Option Addr) (w : World) : (Instr.typeAssert (.iface 114 (.pointer a)) 80 97 true).run Try.prog w = .ok (.tuple #[.pointer (none), .bool false]) w := by kernel_rfl
theorem ta_114_100 (a : Option Addr) (w : World) : (Instr.typeAssert (.iface 114 (.pointer a)) 80 100 true).run Try.prog w = .ok (.tuple #[.pointer (none), .bool false]) w := by kernel_rfl
theorem ta_114_106 (a : Option Addr) (w : World) : (Instr.typeAssert (.iface 114 (.pointer a)) 80 106 true).run Try.prog w = .ok (.tuple #[.pointer (none), .bool false]) w := by kernel_rfl
theorem ta_114_117 (a : Option Addr) (w : World) : (Instr.typeAssert (.iface 114 (.pointer a)) 80 117 true).run Try.prog w = .ok (.tuple #[.pointer (none), .bool false]) w := by kernel_rfl
theorem ta_114_120 (a : Option Addr) (w : World) : (Instr.typeAssert (.iface 114 (.pointer a)) 80 120 true).run Try.prog w = .ok (.tuple #[.pointer (none), .bool false]) w := by kernel_rfl
theorem ta_114_127 (a : Option Addr) (w : World) : (Instr.typeAssert (.iface 114 (.pointer a)) 80 127 true).run Try.prog w = .ok (.tuple #[.pointer (none), .bool false]) w := by kernel_rfl
theorem ta_114_130 (a : Option Addr) (w : World) : (Instr.typeAssert (.iface 114 (.pointer a)) 80 130 true).run Try.prog w = .ok (.tuple #[.pointer (none), .bool false]) w := by kernel_rfl
theorem ta_117_97 (a : Addr) (w : World) : (Instr.typeAssert (.iface 117 (.pointer (some a))) 80 97 true).run Try.prog w = .ok (.tuple #[.pointer (none), .bool false]) w := by kernel_rfl
theorem ta_117_100 (a : Addr) (w : World) : (Instr.typeAssert (.iface 117 (.pointer (some a))) 80 100 true).run Try.prog w = .ok (.tuple #[.pointer (none), .bool false]) w := by kernel_rfl
theorem ta_117_106 (a : Addr) (w : World) : (Instr.typeAssert (.iface 117 (.pointer (some a))) 80 106 true).run Try.prog w = .ok (.tuple #[.pointer (none), .bool false]) w := by kernel_rfl
theorem ta_117_117 (a : Addr) (w : World) : (Instr.typeAssert (.iface 117 (.pointer (some a))) 80 117 true).run Try.prog w = .ok (.tuple #[.pointer (some a), .bool true]) w := by kernel_rfl
theorem ta_117_120 (a : Addr) (w : World) : (Instr.typeAssert (.iface 117 (.pointer (some a))) 80 120 true).run Try.prog w = .ok (.tuple #[.pointer (none), .bool false]) w := by kernel_rfl
theorem ta_117_127 (a : Addr) (w : World) : (Instr.typeAssert (.iface 117 (.pointer (some a))) 80 127 true).run Try.prog w = .ok (.tuple #[.pointer (none), .bool false]) w := by kernel_rfl
theorem ta_117_130 (a : Addr) (w : World) : (Instr.typeAssert (.iface 117 (.pointer (some a))) 80 130 true).run Try.prog w = .ok (.tuple #[.pointer (none), .bool false]) w := by kernel_rfl
theorem ta_120_97 (a : Addr) (w : World) : (Instr.typeAssert (.iface 120 (.pointer (some a))) 80 97 true).run Try.prog w = .ok (.tuple #[.pointer (none), .bool false]) w := by kernel_rfl
theorem ta_120_100 (a : Addr) (w : World) : (Instr.typeAssert (.iface 120 (.pointer (some a))) 80 100 true).run Try.prog w = .ok (.tuple #[.pointer (none), .bool false]) w := by kernel_rfl
theorem ta_120_106 (a : Addr) (w : World) : (Instr.typeAssert (.iface 120 (.pointer (some a))) 80 106 true).run Try.prog w = .ok (.tuple #[.pointer (none), .bool false]) w := by kernel_rfl
theorem ta_120_117 (a : Addr) (w : World) : (Instr.typeAssert (.iface 120 (.pointer (some a))) 80 117 true).run Try.prog w = .ok (.tuple #[.pointer (none), .bool false]) w := by kernel_rfl
theorem ta_120_120 (a : Addr) (w : World) : (Instr.typeAssert (.iface 120 (.pointer (some a))) 80 120 true).run Try.prog w = .ok (.tuple #[.pointer (some a), .bool true]) w := by kernel_rfl
theorem ta_120_127 (a : Addr) (w : World) : (Instr.typeAssert (.iface 120 (.pointer (some a))) 80 127 true).run Try.prog w = .ok (.tuple #[.pointer (none), .bool false]) w := by kernel_rfl
theorem ta_120_130 (a : Addr) (w : World) : (Instr.typeAssert (.iface 120 (.pointer (some a))) 80 130 true).run Try.prog w = .ok (.tuple #[.pointer (none), .bool false]) w := by kernel_rfl
theorem ta_127_97 (a : Addr) (w : World) : (Instr.typeAssert (.iface 127 (.pointer (some a))) 80 97 true).run Try.prog w = .ok (.tuple #[.pointer (none), .bool false]) w := by kernel_rfl
theorem ta_127_100 (a : Addr) (w : World) : (Instr.typeAssert (.iface 127 (.pointer (some a))) 80 100 true).run Try.prog w = .ok (.tuple #[.pointer (none), .bool false]) w := by kernel_rfl
theorem ta_127_106 (a : Addr) (w : World) : (Instr.typeAssert (.iface 127 (.pointer (some a))) 80 106 true).run Try.prog w = .ok (.tuple #[.pointer (none), .bool false]) w := by kernel_rfl
theorem ta_127_117 (a : Addr) (w : World) : (Instr.typeAssert (.iface 127 (.pointer (some a))) 80 117 true).run Try.prog w = .ok (.tuple #[.pointer (none), .bool false]) w := by kernel_rfl
theorem ta_127_120 (a : Addr) (w : World) : (Instr.typeAssert (.iface 127 (.pointer (some a))) 80 120 true).run Try.prog w = .ok (.tuple #[.pointer (none), .bool false]) w := by kernel_rfl
theorem ta_127_127 (a : Addr) (w : World) : (Instr.typeAssert (.iface 127 (.pointer (some a))) 80 127 true).run Try.prog w = .ok (.tuple #[.pointer (some a), .bool true]) w := by kernel_rfl
theorem ta_127_130 (a : Addr) (w : World) : (Instr.typeAssert (.iface 127 (.pointer (some a))) 80 130 true).run Try.prog w = .ok (.tuple #[.pointer (none), .bool false]) w := by kernel_rfl
theorem ta_130_97 (a : Addr) (w : World) : (Instr.typeAssert (.iface 130 (.pointer (some a))) 80 97 true).run Try.prog w = .ok (.tuple #[.pointer (none), .bool false]) w := by kernel_rfl
theorem ta_130_100 (a : Addr) (w : World) : (Instr.typeAssert (.iface 130 (.pointer (some a))) 80 100 true).run Try.prog w = .ok (.tuple #[.pointer (none), .bool false]) w := by kernel_rfl
theorem ta_130_106 (a : Addr) (w : World) : (Instr.typeAssert (.iface 130 (.pointer (some a))) 80 106 true).run Try.prog w = .ok (.tuple #[.pointer (none), .bool false]) w := by kernel_rfl
theorem ta_130_117 (a : Addr) (w : World) : (Instr.typeAssert (.iface 130 (.pointer (some a))) 80 117 true).run Try.prog w = .ok (.tuple #[.pointer (none), .bool false]) w := by kernel_rfl
theorem ta_130_120 (a : Addr) (w : World) : (Instr.typeAssert (.iface 130 (.pointer (some a))) 80 120 true).run Try.prog w = .ok (.tuple #[.pointer (none), .bool false]) w := by kernel_rfl
theorem ta_130_127 (a : Addr) (w : World) : (Instr.typeAssert (.iface 130 (.pointer (some a))) 80 127 true).run Try.prog w = .ok (.tuple #[.pointer (none), .bool false]) w := by kernel_rfl
theorem ta_130_130 (a : Addr) (w : World) : (Instr.typeAssert (.iface 130 (.pointer (some a))) 80 130 true).run Try.prog w = .ok (.tuple #[.pointer (some a), .bool true]) w := by kernel_rfl

/-- The kinds of types that are no aliases. -/
def NoAl (ds : List D) : T → Prop | .mk k n _ => k = 1 → alOf ds n.toNat = false

theorem flatF_alias (ds : List D) (f : Nat) (n : Int) (es : List T) (h : alOf ds n.toNat = true) : flatF ds (f + 1) (.mk 1 n es) = flatF ds f (ofOf ds n.toNat) := by
  rw [flatF.eq_def]; simp [h]

/-- The names that stand for what is declared, in memory. -/
structure AliasOk (ds : List D) (NB : Nat → Nat) (w : World) : Prop where
  at_ : ∀ n, n < ds.length → alOf ds n = true → ∃ p v, w.heap[NB n]? = some (.cells #[p, v] 99 (0, 0)) ∧ TyV (alOf ds) NB w Any 0 v (ofOf ds n)


end Go.Proofs.Ytnaedpfaeioolaa
