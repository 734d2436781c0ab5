/- Laws on the maps of the check of cycles of names: a look-up and a store in a map whose keys are pointers, interface values that hold pointers, or integers. -/
import Derived.Test.YtnaedpfaeioolaaMem
import Derived.LaidEql
import Derived.LaidEqlPtr
namespace Go.Proofs.Ytnaedpfaeioolaa
open Go.RowKit Go.Instr
set_option linter.unusedVariables false

section
variable {P : Program} (w : World)

theorem asking_hit (kt : TypeId) (k : Value) (e : MapEntry) (post : List MapEntry) : ∀ (pre : List MapEntry) (i : Nat),
    (∀ x ∈ pre, (Op.equal kt k x.key).run P w = .ok false w) → (Op.equal kt k e.key).run P w = .ok true w →
    (findAsking kt k (pre ++ e :: post) i).run P w = .ok (some (i + pre.length, e.val)) w
  | [], i, _, h => by simp [findAsking, h]
  | x :: pre, i, hp, h => by
    have ih := asking_hit kt k e post pre (i + 1) (fun y hy => hp y (by simp [hy])) h
    simp only [List.cons_append, findAsking, Sem.run_bind, hp x (by simp), Result.andThen_ok]
    simp [ih, Nat.add_assoc, Nat.add_comm 1]

theorem asking_miss (kt : TypeId) (k : Value) : ∀ (es : List MapEntry) (i : Nat), (∀ x ∈ es, (Op.equal kt k x.key).run P w = .ok false w) → (findAsking kt k es i).run P w = .ok none w
  | [], i, _ => by simp [findAsking]
  | x :: es, i, hp => by
    have ih := asking_miss kt k es (i + 1) (fun y hy => hp y (by simp [hy]))
    simp [findAsking, hp x (by simp), ih]

theorem findKey_asks {kt : TypeId} {d : TypeDesc} (hd : P.underlying kt = some d) (hn : ∀ a b, sameNow d a b = none) (k : Value) (es : List MapEntry) :
    (findKey kt k es).run P w = (findAsking kt k es 0).run P w := by
  cases es with
  | nil => simp [findKey, run_underlying hd, findNow, findAsking]
  | cons x es => simp [findKey, run_underlying hd, findNow, hn]

/-- The keys of a map, its values. -/
def kvs (es : Array MapEntry) : List (Value × Value) := es.toList.map fun e => (e.key, e.val)

end

/-- A key among the keys: where it stands. -/
theorem kv_split {es : List MapEntry} {js : List Nat} {g : Nat → Value × Value} (h : es.map (fun e => (e.key, e.val)) = js.map g) (hd : js.Nodup) {i : Nat} (hi : i ∈ js) :
    ∃ pre e post j1 j2, es = pre ++ e :: post ∧ js = j1 ++ i :: j2 ∧ pre.map (fun e => (e.key, e.val)) = j1.map g ∧ (e.key, e.val) = g i ∧ post.map (fun e => (e.key, e.val)) = j2.map g ∧ i ∉ j1 ∧ i ∉ j2 := by
  obtain ⟨j1, j2, rfl⟩ := List.append_of_mem hi
  rw [List.map_append, List.map_cons] at h
  obtain ⟨pre, r, hes, hpre, hr⟩ := List.map_eq_append_iff.1 h
  obtain ⟨e, post, rfl, he, hpost⟩ := List.map_eq_cons_iff.1 hr
  rw [List.nodup_append] at hd
  obtain ⟨_, h2, h3⟩ := hd
  rw [List.nodup_cons] at h2
  exact ⟨pre, e, post, j1, j2, hes, rfl, hpre, he, hpost, fun hm => h3 i hm i (by simp) rfl, h2.1⟩

theorem run_zero3 (w : World) : (zeroValue 3).run Try.prog w = .ok (.int .i64 0) w := by kernel_rfl

theorem info82 : (Try.prog.info? 82).map (fun i => i.size) = some 2 := by kernel_rfl
theorem info78 : (Try.prog.info? 78).map (fun i => i.comparable) = some true := by kernel_rfl

theorem equal_ptr_same (w : World) (a : Addr) : (Op.equal 78 (.pointer (some a)) (.pointer (some a))).run Try.prog w = .ok true w := by
  obtain ⟨j, hj, _⟩ : ∃ j, Try.prog.info? 82 = some j ∧ j.size = 2 := by simpa using info82
  have h : ∀ d : Nat, (Op.equalIn (d + 1) 78 (.pointer (some a)) (.pointer (some a))).run Try.prog w = .ok true w := fun d => by
    simp [Op.equalIn, run_underlying Try.underlying78, sizeOf, typeInfo, hj, run_sameAddr_same]
  simp [Op.equal, Op.maxDepth, h 9999]

theorem equal_ptr_other (w : World) {a b : Addr} {ca cb : Array Value} {ta tb : TypeId} (hne : a ≠ b) (ha : w.heap[a.block]? = some (.cells ca ta (0, 0))) (hb : w.heap[b.block]? = some (.cells cb tb (0, 0))) :
    (Op.equal 78 (.pointer (some a)) (.pointer (some b))).run Try.prog w = .ok false w := by
  obtain ⟨j, hj, hs⟩ : ∃ j, Try.prog.info? 82 = some j ∧ j.size = 2 := by simpa using info82
  have h : ∀ d : Nat, (Op.equalIn (d + 1) 78 (.pointer (some a)) (.pointer (some b))).run Try.prog w = .ok false w := fun d => by
    simp [Op.equalIn, run_underlying Try.underlying78, sizeOf, typeInfo, hj, hs, run_sameAddr_other w hne ha hb]
  simp [Op.equal, Op.maxDepth, h 9999]

theorem equal_if_same (w : World) (a : Addr) : (Op.equal 84 (.iface 78 (.pointer (some a))) (.iface 78 (.pointer (some a)))).run Try.prog w = .ok true w := by
  obtain ⟨j, hj, _⟩ : ∃ j, Try.prog.info? 82 = some j ∧ j.size = 2 := by simpa using info82
  obtain ⟨i, hi, hc⟩ : ∃ j, Try.prog.info? 78 = some j ∧ j.comparable = true := by simpa using info78
  have := run_equalIn_iface_ptr_same (P := Try.prog) w 9998 a Try.underlying84 Try.underlying78 hi hc hj
  simpa [Op.equal, Op.maxDepth] using this

theorem equal_if_other (w : World) {a b : Addr} {ca cb : Array Value} {ta tb : TypeId} (hne : a ≠ b) (ha : w.heap[a.block]? = some (.cells ca ta (0, 0))) (hb : w.heap[b.block]? = some (.cells cb tb (0, 0))) :
    (Op.equal 84 (.iface 78 (.pointer (some a))) (.iface 78 (.pointer (some b)))).run Try.prog w = .ok false w := by
  obtain ⟨j, hj, hs⟩ : ∃ j, Try.prog.info? 82 = some j ∧ j.size = 2 := by simpa using info82
  obtain ⟨i, hi, hc⟩ : ∃ j, Try.prog.info? 78 = some j ∧ j.comparable = true := by simpa using info78
  have := run_equalIn_iface_ptr_other (P := Try.prog) w 9998 Try.underlying84 Try.underlying78 hi hc hj (by omega) hne ha hb
  simpa [Op.equal, Op.maxDepth] using this

/-- The names' blocks: two cells each, no two of them one. -/
structure Names (w : World) (n : Nat) (T : Nat → Nat) : Prop where
  blk : ∀ j, j < n → ∃ cs, w.heap[T j]? = some (.cells cs 82 (0, 0))
  inj : ∀ i j, i < n → j < n → T i = T j → i = j

/-- The map of the names that have been seen. -/
def PIdx (w : World) (M n : Nat) (T : Nat → Nat) (f : Nat → Option Int) : Prop :=
  ∃ (es : Array MapEntry) (clk : Nat) (js : List Nat), w.heap[M]? = some (.map es clk) ∧ js.Nodup ∧ (∀ j ∈ js, j < n) ∧
    es.toList.map (fun e => (e.key, e.val)) = js.map (fun j => (Value.pointer (some ⟨T j, 0, none⟩), Value.int .i64 ((f j).getD 0))) ∧ ∀ j, j ∈ js ↔ (f j).isSome = true

theorem equal_name (w : World) {n : Nat} {T : Nat → Nat} (hn : Names w n T) {i j : Nat} (hi : i < n) (hj : j < n) (hne : i ≠ j) :
    (Op.equal 78 (.pointer (some ⟨T i, 0, none⟩)) (.pointer (some ⟨T j, 0, none⟩))).run Try.prog w = .ok false w := by
  obtain ⟨c1, h1⟩ := hn.blk i hi
  obtain ⟨c2, h2⟩ := hn.blk j hj
  exact equal_ptr_other w (fun e => hne (hn.inj i j hi hj (by simpa using e))) h1 h2

theorem mem_kv {es : List MapEntry} {js : List Nat} {g : Nat → Value × Value} (h : es.map (fun e => (e.key, e.val)) = js.map g) {x : MapEntry} (hx : x ∈ es) : ∃ j ∈ js, (x.key, x.val) = g j := by
  have : (x.key, x.val) ∈ es.map (fun e => (e.key, e.val)) := List.mem_map.2 ⟨x, hx, rfl⟩
  rw [h] at this
  obtain ⟨j, hj, he⟩ := List.mem_map.1 this
  exact ⟨j, hj, he.symm⟩

theorem under78 : Try.prog.underlying 78 = some (.pointer 82) := Try.underlying78

theorem check78 (w : World) (b : Bool) (p : Option Addr) : (checkKey b 10000 78 (.pointer p)).run Try.prog w = .ok () w := by
  have h : ∀ d : Nat, (checkKey b (d + 1) 78 (.pointer p)).run Try.prog w = .ok () w := fun d => by simp [checkKey, run_underlying Try.underlying78]
  exact h 9999

theorem PIdx.look {w : World} {M n : Nat} {T : Nat → Nat} {f : Nat → Option Int} (h : PIdx w M n T f) (hn : Names w n T) {i : Nat} (hi : i < n) :
    (Instr.lookup 111 (.map (some M)) (.pointer (some ⟨T i, 0, none⟩)) true).run Try.prog w = .ok (.tuple #[.int .i64 ((f i).getD 0), .bool (f i).isSome]) w := by
  obtain ⟨es, clk, js, hM, hd, hlt, hkv, hmem⟩ := h
  have hk := findKey_asks (P := Try.prog) w Try.underlying78 (fun a b => by cases a <;> cases b <;> rfl) (.pointer (some ⟨T i, 0, none⟩)) es.toList
  cases hf : f i with
  | none =>
    have hni : i ∉ js := by rw [hmem, hf]; simp
    have hm := asking_miss (P := Try.prog) w 78 (.pointer (some ⟨T i, 0, none⟩)) es.toList 0 (by
      intro x hx
      obtain ⟨j, hj, he⟩ := mem_kv hkv hx
      simp only [Prod.mk.injEq] at he
      rw [he.1]
      exact equal_name w hn hi (hlt j hj) (fun e => hni (e ▸ hj)))
    rw [hm] at hk
    simp [Instr.lookup, run_underlying Try.underlying111, MapKept.run_getObj_map hM, check78, hk, Result.andThen]
  | some v =>
    have hi' : i ∈ js := by rw [hmem, hf]; simp
    obtain ⟨pre, e, post, j1, j2, hes, hjs, hpre, he, hpost, h1, h2⟩ := kv_split hkv hd hi'
    simp only [Prod.mk.injEq, hf, Option.getD_some] at he
    have hm := asking_hit (P := Try.prog) w 78 (.pointer (some ⟨T i, 0, none⟩)) e post pre 0 (by
      intro x hx
      obtain ⟨j, hj, he⟩ := mem_kv hpre hx
      simp only [Prod.mk.injEq] at he
      rw [he.1]
      exact equal_name w hn hi (hlt j (by rw [hjs]; simp [hj])) (fun e => h1 (e ▸ hj))) (by rw [he.1]; exact equal_ptr_same w _)
    rw [← hes] at hm
    rw [hm] at hk
    simp [Instr.lookup, run_underlying Try.underlying111, MapKept.run_getObj_map hM, check78, hk, he.2, Result.andThen]

/-- A map's block with other entries. -/
def mapTo (w : World) (M : Nat) (es : Array MapEntry) (clk : Nat) : World := { w with heap := w.heap.setIfInBounds M (.map es clk) }

theorem mapTo_same {w : World} {M : Nat} (h : M < w.heap.size) (es : Array MapEntry) (clk : Nat) : (mapTo w M es clk).heap[M]? = some (.map es clk) := by
  simp [mapTo, h]
theorem mapTo_other {w : World} {M k : Nat} (h : k ≠ M) (es : Array MapEntry) (clk : Nat) : (mapTo w M es clk).heap[k]? = w.heap[k]? := by
  simp only [mapTo]
  rw [Array.getElem?_setIfInBounds_ne (by omega)]
theorem mapTo_grown (w : World) (M : Nat) (es : Array MapEntry) (clk : Nat) : w.grownBy (mapTo w M es clk) (some M) :=
  ⟨rfl, rfl, rfl, by simp [mapTo], fun k _ hk => mapTo_other (fun e => hk (by rw [e])) es clk⟩

theorem congr2 {α β γ : Type} (f : α → β → γ) {a a' : α} {b b' : β} (h : a = a') (k : b = b') : f a b = f a' b' := by rw [h, k]

theorem modify_mid {α : Type} (f : α → α) (e : α) (post : List α) : ∀ pre : List α, (pre ++ e :: post).modify pre.length f = pre ++ f e :: post
  | [] => rfl
  | x :: pre => by simp [modify_mid f e post pre]

theorem PIdx.store {w : World} {M n : Nat} {T : Nat → Nat} {f : Nat → Option Int} (h : PIdx w M n T f) (hn : Names w n T) {i : Nat} (hi : i < n) (v : Int) :
    ∃ w', (Instr.mapUpdate 111 (.map (some M)) (.pointer (some ⟨T i, 0, none⟩)) (.int .i64 v)).run Try.prog w = .ok () w' ∧ PIdx w' M n T (fun j => if j = i then some v else f j) ∧ w.grownBy w' (some M) := by
  obtain ⟨es, clk, js, hM, hd, hlt, hkv, hmem⟩ := h
  have hsz : M < w.heap.size := (Array.getElem?_eq_some_iff.1 hM).1
  have hk := findKey_asks (P := Try.prog) w Try.underlying78 (fun a b => by cases a <;> cases b <;> rfl) (.pointer (some ⟨T i, 0, none⟩)) es.toList
  cases hf : f i with
  | none =>
    have hni : i ∉ js := by rw [hmem, hf]; simp
    have hm := asking_miss (P := Try.prog) w 78 (.pointer (some ⟨T i, 0, none⟩)) es.toList 0 (by
      intro x hx
      obtain ⟨j, hj, he⟩ := mem_kv hkv hx
      simp only [Prod.mk.injEq] at he
      rw [he.1]
      exact equal_name w hn hi (hlt j hj) (fun e => hni (e ▸ hj)))
    rw [hm] at hk
    refine ⟨mapTo w M (es.push { key := .pointer (some ⟨T i, 0, none⟩), val := .int .i64 v, born := clk }) (clk + 1), ?_, ⟨_, _, js ++ [i], mapTo_same hsz _ _, ?_, ?_, ?_, ?_⟩, mapTo_grown _ _ _ _⟩
    · simp only [Instr.mapUpdate, Sem.run_bind, run_underlying Try.underlying111, MapKept.run_getObj_map hM, MapKept.run_setObj_map _ hM, check78, hk, Result.andThen]
      rfl
    · rw [List.nodup_append]
      exact ⟨hd, by simp, by intro a ha b hb; simp at hb; subst hb; exact fun e => hni (e ▸ ha)⟩
    · intro j hj
      rw [List.mem_append] at hj
      rcases hj with hj | hj
      · exact hlt j hj
      · simp at hj; omega
    · rw [Array.toList_push, List.map_append, hkv, List.map_append]
      refine congr2 (· ++ ·) (List.map_congr_left fun j hj => ?_) ?_
      · have : j ≠ i := fun e => hni (e ▸ hj)
        simp [this]
      · simp
    · intro j
      rw [List.mem_append, hmem]
      by_cases hji : j = i
      · subst hji; simp
      · simp [hji]
  | some u =>
    have hi' : i ∈ js := by rw [hmem, hf]; simp
    obtain ⟨pre, e, post, j1, j2, hes, hjs, hpre, he, hpost, h1, h2⟩ := kv_split hkv hd hi'
    simp only [Prod.mk.injEq, hf, Option.getD_some] at he
    have hm := asking_hit (P := Try.prog) w 78 (.pointer (some ⟨T i, 0, none⟩)) e post pre 0 (by
      intro x hx
      obtain ⟨j, hj, he⟩ := mem_kv hpre hx
      simp only [Prod.mk.injEq] at he
      rw [he.1]
      exact equal_name w hn hi (hlt j (by rw [hjs]; simp [hj])) (fun e => h1 (e ▸ hj))) (by rw [he.1]; exact equal_ptr_same w _)
    rw [← hes, Nat.zero_add] at hm
    rw [hm] at hk
    have hat : es[pre.length]? = some e := by rw [← Array.getElem?_toList, hes]; simp
    have hkeep : (keyThatStays (((es[pre.length]?).map (·.key)).getD (.pointer (some ⟨T i, 0, none⟩))) (.pointer (some ⟨T i, 0, none⟩))).run Try.prog w = .ok (.pointer (some ⟨T i, 0, none⟩)) w := by
      rw [hat]
      simp only [Option.map_some, Option.getD_some, he.1]
      unfold keyThatStays
      rw [if_pos (by simp [sameBits])]
      rfl
    refine ⟨mapTo w M (es.modify pre.length fun e => { e with key := .pointer (some ⟨T i, 0, none⟩), val := .int .i64 v }) clk, ?_, ⟨_, _, js, mapTo_same hsz _ _, hd, hlt, ?_, ?_⟩, mapTo_grown _ _ _ _⟩
    · simp only [Instr.mapUpdate, Sem.run_bind, run_underlying Try.underlying111, MapKept.run_getObj_map hM, MapKept.run_setObj_map _ hM, check78, hk, hkeep, Result.andThen]
      rfl
    · have e1 : (es.modify pre.length fun e => { e with key := Value.pointer (some ⟨T i, 0, none⟩), val := Value.int .i64 v }).toList = pre ++ { e with key := Value.pointer (some ⟨T i, 0, none⟩), val := Value.int .i64 v } :: post := by
        rw [Array.toList_modify, hes, modify_mid]
      rw [e1, hjs, List.map_append, List.map_append, List.map_cons, List.map_cons, hpre, hpost]
      refine congr2 (· ++ ·) (List.map_congr_left fun j hj => ?_) (congr2 List.cons ?_ (List.map_congr_left fun j hj => ?_))
      · have : j ≠ i := fun e => h1 (e ▸ hj)
        simp [this]
      · simp
      · have : j ≠ i := fun e => h2 (e ▸ hj)
        simp [this]
    · intro j
      rw [hmem]
      by_cases hji : j = i
      · subst hji; simp [hf]
      · simp [hji]

theorem now_hit (q : IntKind) (m : Int) (e : MapEntry) (post : List MapEntry) (he : e.key = .int .i64 m) : ∀ (pre : List MapEntry) (i : Nat),
    (∀ x ∈ pre, ∃ y, x.key = .int .i64 y ∧ y ≠ m) → findNow (.int q) (.int .i64 m) (pre ++ e :: post) i = some (some (i + pre.length, e.val))
  | [], i, _ => by simp [findNow, he, sameNow]
  | x :: pre, i, hp => by
    obtain ⟨y, hy, hne⟩ := hp x (by simp)
    have ih := now_hit q m e post he pre (i + 1) (fun z hz => hp z (by simp [hz]))
    have hs : sameNow (.int q) (.int .i64 m) (.int .i64 y) = some false := by simp [sameNow]; exact fun e => hne e.symm
    simp only [List.cons_append, findNow, hy, hs, ih]
    simp [Nat.add_assoc, Nat.add_comm 1]

theorem now_miss (q : IntKind) (m : Int) : ∀ (es : List MapEntry) (i : Nat), (∀ x ∈ es, ∃ y, x.key = .int .i64 y ∧ y ≠ m) → findNow (.int q) (.int .i64 m) es i = some none
  | [], i, _ => rfl
  | x :: es, i, hp => by
    obtain ⟨y, hy, hne⟩ := hp x (by simp)
    have ih := now_miss q m es (i + 1) (fun z hz => hp z (by simp [hz]))
    have hs : sameNow (.int q) (.int .i64 m) (.int .i64 y) = some false := by simp [sameNow]; exact fun e => hne e.symm
    simp only [findNow, hy, hs, ih]

/-- The scope's map of names, k names being there. -/
def Scope1 (w : World) (M k : Nat) (T : Nat → Nat) : Prop :=
  ∃ (es : Array MapEntry) (clk : Nat), w.heap[M]? = some (.map es clk) ∧ es.toList.map (fun e => (e.key, e.val)) = (List.range k).map (fun (j : Nat) => (Value.int .i64 (j : Int), Value.iface 78 (.pointer (some ⟨T j, 0, none⟩))))

theorem check3 (w : World) (b : Bool) (m : Int) : (checkKey b 10000 3 (.int .i64 m)).run Try.prog w = .ok () w := by
  have h : ∀ d : Nat, (checkKey b (d + 1) 3 (.int .i64 m)).run Try.prog w = .ok () w := fun d => by simp [checkKey, run_underlying Try.underlying3]
  exact h 9999

theorem Scope1.look {w : World} {M k : Nat} {T : Nat → Nat} (h : Scope1 w M k T) {i : Nat} (hi : i < k) :
    (Instr.lookup 68 (.map (some M)) (.int .i64 (i : Int)) false).run Try.prog w = .ok (.iface 78 (.pointer (some ⟨T i, 0, none⟩))) w := by
  obtain ⟨es, clk, hM, hkv⟩ := h
  obtain ⟨pre, e, post, j1, j2, hes, hjs, hpre, he, hpost, h1, h2⟩ := kv_split hkv List.nodup_range (List.mem_range.2 hi)
  simp only [Prod.mk.injEq] at he
  have hn := now_hit .i64 (i : Int) e post he.1 pre 0 (by
    intro x hx
    obtain ⟨j, hj, hx⟩ := mem_kv hpre hx
    simp only [Prod.mk.injEq] at hx
    exact ⟨j, hx.1, fun e => h1 (by rw [← Int.ofNat.inj e]; exact hj)⟩)
  rw [← hes] at hn
  have hk : (findKey 3 (.int .i64 (i : Int)) es.toList).run Try.prog w = .ok (some (0 + pre.length, e.val)) w := by
    simp [findKey, run_underlying Try.underlying3, hn]
  simp [Instr.lookup, run_underlying Try.underlying68, MapKept.run_getObj_map hM, check3, hk, he.2, Result.andThen]

theorem Scope1.store {w : World} {M k : Nat} {T : Nat → Nat} (h : Scope1 w M k T) :
    ∃ w', (Instr.mapUpdate 68 (.map (some M)) (.int .i64 (k : Int)) (.iface 78 (.pointer (some ⟨T k, 0, none⟩)))).run Try.prog w = .ok () w' ∧ Scope1 w' M (k + 1) T ∧ w.grownBy w' (some M) := by
  obtain ⟨es, clk, hM, hkv⟩ := h
  have hsz : M < w.heap.size := (Array.getElem?_eq_some_iff.1 hM).1
  have hn := now_miss .i64 (k : Int) es.toList 0 (by
    intro x hx
    obtain ⟨j, hj, hx⟩ := mem_kv hkv hx
    simp only [Prod.mk.injEq] at hx
    have := List.mem_range.1 hj
    exact ⟨j, hx.1, by omega⟩)
  have hk : (findKey 3 (.int .i64 (k : Int)) es.toList).run Try.prog w = .ok none w := by
    simp [findKey, run_underlying Try.underlying3, hn]
  refine ⟨mapTo w M (es.push { key := .int .i64 (k : Int), val := .iface 78 (.pointer (some ⟨T k, 0, none⟩)), born := clk }) (clk + 1), ?_, ⟨_, _, mapTo_same hsz _ _, ?_⟩, mapTo_grown _ _ _ _⟩
  · simp only [Instr.mapUpdate, Sem.run_bind, run_underlying Try.underlying68, MapKept.run_getObj_map hM, MapKept.run_setObj_map _ hM, check3, hk, Result.andThen]
    rfl
  · rw [Array.toList_push, List.map_append, hkv, List.range_succ, List.map_append]
    rfl

/-- The map from names to what is declared, k names being there. -/
def Decls (w : World) (M k : Nat) (T D : Nat → Nat) : Prop :=
  ∃ (es : Array MapEntry) (clk : Nat), w.heap[M]? = some (.map es clk) ∧ es.toList.map (fun e => (e.key, e.val)) = (List.range k).map (fun (j : Nat) => (Value.iface 78 (.pointer (some ⟨T j, 0, none⟩)), Value.pointer (some ⟨D j, 0, none⟩)))

theorem check84 (w : World) (b : Bool) (a : Addr) : (checkKey b 10000 84 (.iface 78 (.pointer (some a)))).run Try.prog w = .ok () w := by
  obtain ⟨i, hi, hc⟩ : ∃ j, Try.prog.info? 78 = some j ∧ j.comparable = true := by simpa using info78
  have h : ∀ d : Nat, (checkKey b (d + 2) 84 (.iface 78 (.pointer (some a)))).run Try.prog w = .ok () w := fun d => by
    simp [checkKey, run_underlying Try.underlying84, run_underlying Try.underlying78, typeInfo, hi, hc]
  exact h 9998

theorem equal_if_name (w : World) {n : Nat} {T : Nat → Nat} (hn : Names w n T) {i j : Nat} (hi : i < n) (hj : j < n) (hne : i ≠ j) :
    (Op.equal 84 (.iface 78 (.pointer (some ⟨T i, 0, none⟩))) (.iface 78 (.pointer (some ⟨T j, 0, none⟩)))).run Try.prog w = .ok false w := by
  obtain ⟨c1, h1⟩ := hn.blk i hi
  obtain ⟨c2, h2⟩ := hn.blk j hj
  exact equal_if_other w (fun e => hne (hn.inj i j hi hj (by simpa using e))) h1 h2

theorem Decls.look {w : World} {M k : Nat} {T D : Nat → Nat} (h : Decls w M k T D) (hn : Names w k T) {i : Nat} (hi : i < k) :
    (Instr.lookup 73 (.map (some M)) (.iface 78 (.pointer (some ⟨T i, 0, none⟩))) false).run Try.prog w = .ok (.pointer (some ⟨D i, 0, none⟩)) w := by
  obtain ⟨es, clk, hM, hkv⟩ := h
  have hk := findKey_asks (P := Try.prog) w Try.underlying84 (fun a b => by cases a <;> cases b <;> rfl) (.iface 78 (.pointer (some ⟨T i, 0, none⟩))) es.toList
  obtain ⟨pre, e, post, j1, j2, hes, hjs, hpre, he, hpost, h1, h2⟩ := kv_split hkv List.nodup_range (List.mem_range.2 hi)
  simp only [Prod.mk.injEq] at he
  have hm := asking_hit (P := Try.prog) w 84 (.iface 78 (.pointer (some ⟨T i, 0, none⟩))) e post pre 0 (by
    intro x hx
    obtain ⟨j, hj, he⟩ := mem_kv hpre hx
    simp only [Prod.mk.injEq] at he
    rw [he.1]
    exact equal_if_name w hn hi (List.mem_range.1 (by rw [hjs]; simp [hj])) (fun e => h1 (e ▸ hj))) (by rw [he.1]; exact equal_if_same w _)
  rw [← hes] at hm
  rw [hm] at hk
  simp [Instr.lookup, run_underlying Try.underlying73, MapKept.run_getObj_map hM, check84, hk, he.2, Result.andThen]

theorem Decls.store {w : World} {M k : Nat} {T D : Nat → Nat} (h : Decls w M k T D) (hn : Names w (k + 1) T) :
    ∃ w', (Instr.mapUpdate 73 (.map (some M)) (.iface 78 (.pointer (some ⟨T k, 0, none⟩))) (.pointer (some ⟨D k, 0, none⟩))).run Try.prog w = .ok () w' ∧ Decls w' M (k + 1) T D ∧ w.grownBy w' (some M) := by
  obtain ⟨es, clk, hM, hkv⟩ := h
  have hsz : M < w.heap.size := (Array.getElem?_eq_some_iff.1 hM).1
  have hk := findKey_asks (P := Try.prog) w Try.underlying84 (fun a b => by cases a <;> cases b <;> rfl) (.iface 78 (.pointer (some ⟨T k, 0, none⟩))) es.toList
  have hm := asking_miss (P := Try.prog) w 84 (.iface 78 (.pointer (some ⟨T k, 0, none⟩))) es.toList 0 (by
    intro x hx
    obtain ⟨j, hj, he⟩ := mem_kv hkv hx
    simp only [Prod.mk.injEq] at he
    rw [he.1]
    have := List.mem_range.1 hj
    exact equal_if_name w hn (by omega) (by omega) (by omega))
  rw [hm] at hk
  refine ⟨mapTo w M (es.push { key := .iface 78 (.pointer (some ⟨T k, 0, none⟩)), val := .pointer (some ⟨D k, 0, none⟩), born := clk }) (clk + 1), ?_, ⟨_, _, mapTo_same hsz _ _, ?_⟩, mapTo_grown _ _ _ _⟩
  · simp only [Instr.mapUpdate, Sem.run_bind, run_underlying Try.underlying73, MapKept.run_getObj_map hM, MapKept.run_setObj_map _ hM, check84, hk, Result.andThen]
    rfl
  · rw [Array.toList_push, List.map_append, hkv, List.range_succ, List.map_append]
    rfl

end Go.Proofs.Ytnaedpfaeioolaa
