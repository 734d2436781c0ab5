/- The plain law of cycles of names: the walks by marks find what spec.DirectCycles finds, in its order; each cycle bears one mark. No program in sight. -/
import Derived.Test.YtnaedpfaeioolaaDQ
namespace Go.Proofs.Ytnaedpfaeioolaa

/-- The first L names on the way from i. -/
def pth (r : List Int) (i L : Nat) : List Nat := (List.range L).map fun j => (it r j i).toNat

theorem pth_succ (r : List Int) (i L : Nat) : pth r i (L + 1) = pth r i L ++ [(it r L i).toNat] := by
  simp [pth, List.range_succ]
theorem pth_len (r : List Int) (i L : Nat) : (pth r i L).length = L := by simp [pth]
theorem pth_get (r : List Int) (i L j : Nat) (h : j < L) : (pth r i L)[j]? = some (it r j i).toNat := by simp [pth, h]

theorem stp_getD {r : List Int} {x : Int} (h : 0 ≤ x) : stp r x = r.getD x.toNat (-1) := by
  unfold stp
  rw [if_neg (by omega), List.getD_eq_getElem?_getD]

theorem pth_bd {r : List Int} (hf : Fine r) {i L : Nat} (hi : i < r.length) (hp : ∀ j, j < L → 0 ≤ it r j i) : ∀ x ∈ pth r i L, x < r.length := by
  intro x hx
  obtain ⟨j, hj, rfl⟩ := List.mem_map.1 hx
  have := it_bd hf (show -1 ≤ ((i : Nat) : Int) by omega) (by omega) j
  have := hp j (List.mem_range.1 hj)
  omega

theorem dcWalk_spec {r : List Int} (hf : Fine r) {bl : Nat → Bool} {i : Nat} (hi : i < r.length) : ∀ (fuel L : Nat), fuel + L = r.length + 1 → (∀ j, j < L → 0 ≤ it r j i ∧ bl (it r j i).toNat = false) → (pth r i L).Nodup → 0 ≤ it r L i →
    ∃ L' res, dcWalk r bl fuel (it r L i).toNat (pth r i L) = (pth r i L', res) ∧ L ≤ L' ∧ L' ≤ r.length ∧ (∀ j, j < L' → 0 ≤ it r j i ∧ bl (it r j i).toNat = false) ∧ (pth r i L').Nodup ∧
      ((res = none ∧ (it r L' i < 0 ∨ (0 ≤ it r L' i ∧ bl (it r L' i).toNat = true))) ∨ (∃ p, res = some p ∧ p < L' ∧ it r L' i = it r p i))
  | 0, L, hL, hp, hn, h0 => by
    have := nodup_le r.length (pth r i L) hn (pth_bd hf hi fun j hj => (hp j hj).1)
    rw [pth_len] at this
    omega
  | fuel + 1, L, hL, hp, hn, h0 => by
    have hle := nodup_le r.length (pth r i L) hn (pth_bd hf hi fun j hj => (hp j hj).1)
    rw [pth_len] at hle
    by_cases hb : bl (it r L i).toNat = true
    · exact ⟨L, none, dcWalk_black hb, Nat.le_refl _, hle, hp, hn, Or.inl ⟨rfl, Or.inr ⟨h0, hb⟩⟩⟩
    · have hb' : bl (it r L i).toNat = false := by simpa using hb
      by_cases hm : (it r L i).toNat ∈ pth r i L
      · refine ⟨L, _, dcWalk_found hb' hm, Nat.le_refl _, hle, hp, hn, Or.inr ⟨_, rfl, ?_, ?_⟩⟩
        · have := List.idxOf_lt_length_iff.2 hm
          rwa [pth_len] at this
        · have hlt := List.idxOf_lt_length_iff.2 hm
          have h1 : (pth r i L)[(pth r i L).idxOf (it r L i).toNat]? = some (it r L i).toNat := by rw [List.getElem?_eq_getElem hlt, List.getElem_idxOf hlt]
          rw [pth_len] at hlt
          rw [pth_get r i L _ hlt] at h1
          simp only [Option.some.injEq] at h1
          have := (hp _ hlt).1
          omega
      · have hp2 : ∀ j, j < L + 1 → 0 ≤ it r j i ∧ bl (it r j i).toNat = false := by
          intro j hj
          rcases Nat.lt_succ_iff_lt_or_eq.1 hj with h | h
          · exact hp j h
          · subst h; exact ⟨h0, hb'⟩
        have hn2 : (pth r i (L + 1)).Nodup := by
          rw [pth_succ, List.nodup_append]
          exact ⟨hn, by simp, by intro a ha b hb; simp at hb; subst hb; exact fun e => hm (e ▸ ha)⟩
        have hstep : it r (L + 1) i = r.getD (it r L i).toNat (-1) := by show stp r (it r L i) = _; exact stp_getD h0
        have hle2 := nodup_le r.length (pth r i (L + 1)) hn2 (pth_bd hf hi fun j hj => (hp2 j hj).1)
        rw [pth_len] at hle2
        by_cases hr : r.getD (it r L i).toNat (-1) < 0
        · refine ⟨L + 1, none, ?_, by omega, hle2, hp2, hn2, Or.inl ⟨rfl, Or.inl (by rw [hstep]; exact hr)⟩⟩
          rw [dcWalk_end hb' hm hr, pth_succ]
        · obtain ⟨L', res, h1, h2, h3, h4⟩ := dcWalk_spec hf hi fuel (L + 1) (by omega) hp2 hn2 (by rw [hstep]; omega)
          refine ⟨L', res, ?_, by omega, h3, h4⟩
          rw [dcWalk_on hb' hm hr, ← h1, hstep, pth_succ]

/-- Two numbers on one cycle have one least number on it. -/
theorem mem_cyc {r : List Int} {x : Int} (h : OnC r x) (d : Nat) : ∃ j, j < perOf r x ∧ it r d x = it r j x := by
  obtain ⟨hp0, _, hpe, _⟩ := per_spec h
  have hm : ∀ m, it r (m * perOf r x) x = x := by
    intro m
    induction m with
    | zero => simp [it]
    | succ m ih => rw [Nat.add_mul, Nat.one_mul, it_add, hpe, ih]
  refine ⟨d % perOf r x, Nat.mod_lt _ hp0, ?_⟩
  conv => lhs; rw [← Nat.mod_add_div d (perOf r x)]
  rw [it_add, Nat.mul_comm, hm]

theorem first_le {r : List Int} {x : Int} (h : OnC r x) (d : Nat) : firstOf r x ≤ it r d x := by
  obtain ⟨j, hj, he⟩ := mem_cyc h d
  rw [he, firstOf_eq]
  exact minTo_le r x _ j hj

theorem first_is {r : List Int} {x : Int} : ∃ m, firstOf r x = it r m x := by
  obtain ⟨m, _, he, _⟩ := minTo_is r x (perOf r x)
  exact ⟨m, by rw [firstOf_eq, he]⟩

/-- Where a step leads on a cycle, steps lead back. -/
theorem back {r : List Int} {x : Int} (h : OnC r x) (d : Nat) : ∃ e, it r e (it r d x) = x := by
  obtain ⟨hp0, _, hpe, _⟩ := per_spec h
  obtain ⟨j, hj, he⟩ := mem_cyc h d
  refine ⟨perOf r x - j, ?_⟩
  rw [he, ← it_add, show perOf r x - j + j = perOf r x from by omega, hpe]

theorem first_same {r : List Int} (hf : Fine r) {x : Int} (h : OnC r x) (d : Nat) : firstOf r (it r d x) = firstOf r x := by
  have h2 := onC_it hf h d
  obtain ⟨m, hm⟩ := first_is (r := r) (x := x)
  obtain ⟨m', hm'⟩ := first_is (r := r) (x := it r d x)
  have h3 : firstOf r x ≤ firstOf r (it r d x) := by rw [hm', ← it_add]; exact first_le h _
  have h4 : firstOf r (it r d x) ≤ firstOf r x := by
    obtain ⟨e, he⟩ := back h d
    rw [hm]
    have := first_le h2 (m + e)
    rw [it_add, he] at this
    exact this
  omega

theorem cyc_head (r : List Int) (x : Int) : (cyc r x).headD 0 = x := by
  have : cyc r x = x :: (List.range (perOf r x - 1)).map (fun j => it r (j + 1) x) := by
    unfold cyc
    rw [show perOf r x = (perOf r x - 1) + 1 from by unfold perOf; omega, List.range_succ_eq_map]
    simp [it]
  rw [this]; rfl

/-- What spec.DirectCycles has found behind k names. -/
def specTo (r : List Int) (k : Nat) : List (List Int) := (List.range k).foldl (specStep r) []

theorem specTo_succ (r : List Int) (k : Nat) : specTo r (k + 1) = specStep r (specTo r k) k := specDC_take r k

theorem specStep_sub (r : List Int) (out : List (List Int)) (k : Nat) : ∀ c ∈ out, c ∈ specStep r out k := by
  intro c hc
  unfold specStep
  split
  · exact hc
  · split
    · exact hc
    · exact List.mem_append.2 (Or.inl hc)

theorem spec_known {r : List Int} (k : Nat) : ∀ i, i < k → 0 ≤ it r r.length i → ∃ c ∈ specTo r k, c.headD 0 = firstOf r (it r r.length i) := by
  induction k with
  | zero => intro i hi; omega
  | succ k ih =>
    intro i hi h0
    rw [specTo_succ]
    rcases Nat.lt_succ_iff_lt_or_eq.1 hi with h | h
    · obtain ⟨c, hc, he⟩ := ih i h h0
      exact ⟨c, specStep_sub r _ _ c hc, he⟩
    · subst h
      by_cases hk : (specTo r i).any (fun c => c.headD 0 == firstOf r (it r r.length i)) = true
      · rw [List.any_eq_true] at hk
        obtain ⟨c, hc, he⟩ := hk
        exact ⟨c, specStep_sub r _ _ c hc, by simpa using he⟩
      · unfold specStep
        rw [if_neg (by omega), if_neg hk]
        exact ⟨_, List.mem_append.2 (Or.inr (List.mem_singleton.2 rfl)), cyc_head _ _⟩

theorem spec_from {r : List Int} (k : Nat) : ∀ c ∈ specTo r k, ∃ i, i < k ∧ 0 ≤ it r r.length i ∧ c = cyc r (firstOf r (it r r.length i)) := by
  induction k with
  | zero => intro c hc; simp [specTo] at hc
  | succ k ih =>
    intro c hc
    rw [specTo_succ] at hc
    unfold specStep at hc
    split at hc
    · obtain ⟨i, h1, h2⟩ := ih c hc
      exact ⟨i, by omega, h2⟩
    · split at hc
      · obtain ⟨i, h1, h2⟩ := ih c hc
        exact ⟨i, by omega, h2⟩
      · rcases List.mem_append.1 hc with hc | hc
        · obtain ⟨i, h1, h2⟩ := ih c hc
          exact ⟨i, by omega, h2⟩
        · exact ⟨k, by omega, by omega, List.mem_singleton.1 hc⟩

/-- How many of the first n are marked. -/
def cnt (n : Nat) (f : Nat → Bool) : Nat := ((List.range n).filter f).length

theorem cnt_succ (n : Nat) (f : Nat → Bool) : cnt (n + 1) f = cnt n f + (if f n then 1 else 0) := by
  unfold cnt
  rw [List.range_succ, List.filter_append, List.length_append]
  by_cases h : f n <;> simp [h]

theorem cnt_congr (n : Nat) (f g : Nat → Bool) (h : ∀ j, j < n → f j = g j) : cnt n f = cnt n g := by
  induction n with
  | zero => rfl
  | succ n ih => rw [cnt_succ, cnt_succ, ih (fun j hj => h j (by omega)), h n (by omega)]

theorem cnt_put (n : Nat) (f : Nat → Bool) (t : Nat) (ht : t < n) (hf : f t = false) : cnt n (fun j => f j || decide (j = t)) = cnt n f + 1 := by
  induction n with
  | zero => omega
  | succ n ih =>
    rw [cnt_succ, cnt_succ]
    by_cases h : t = n
    · subst h
      rw [cnt_congr t (fun j => f j || decide (j = t)) f (fun j hj => by have : j ≠ t := by omega
                                                                         simp [this])]
      simp [hf]
    · rw [ih (by omega)]
      have : ¬ n = t := fun e => h e.symm
      simp [this]
      omega

structure DInv (r : List Int) (k : Nat) (s : (Nat → Bool) × (Nat → Bool) × List (List Int)) : Prop where
  bl : ∀ j, s.1 j = true ↔ (j < r.length ∧ ∃ i, i < k ∧ ∃ m, it r m i = (j : Int))
  cy : s.2.2 = specTo r k
  mb : ∀ j, s.2.1 j = true → s.1 j = true
  el : ∀ c ∈ s.2.2, ∀ x ∈ c, 0 ≤ x ∧ s.1 x.toNat = true
  ct : cnt r.length s.2.1 = s.2.2.length
  one : ∀ c ∈ s.2.2, (c.filter fun x => s.2.1 x.toNat).length = 1

theorem DInv.zero (r : List Int) : DInv r 0 (dcAll r 0) := by
  refine ⟨fun j => ?_, rfl, fun j h => by simp [dcAll] at h, fun c hc => by simp [dcAll] at hc, ?_, fun c hc => by simp [dcAll] at hc⟩
  · constructor
    · intro h; simp [dcAll] at h
    · rintro ⟨_, i, hi, _⟩; omega
  · have : cnt r.length (dcAll r 0).2.1 = 0 := by
      unfold cnt
      rw [List.filter_eq_nil_iff.2 (by intro a _; simp [dcAll])]
      rfl
    rw [this]; rfl

/-- The way of one name, behind its walk. -/
theorem on_path {r : List Int} (hf : Fine r) {bl : Nat → Bool} {k i L' : Nat} (hi : i < r.length)
    (hbl : ∀ j, bl j = true ↔ (j < r.length ∧ ∃ i, i < k ∧ ∃ m, it r m i = (j : Int)))
    (hres : it r L' i < 0 ∨ (0 ≤ it r L' i ∧ bl (it r L' i).toNat = true) ∨ (∃ p, p < L' ∧ it r L' i = it r p i)) :
    ∀ m, 0 ≤ it r m i → (it r m i).toNat ∈ pth r i L' ∨ bl (it r m i).toNat = true := by
  intro m
  induction m using Nat.strongRecOn with
  | _ m ih =>
    intro h0
    by_cases hm : m < L'
    · left
      exact List.mem_map.2 ⟨m, List.mem_range.2 hm, rfl⟩
    · have e : it r m i = it r (m - L') (it r L' i) := by rw [← it_add]; congr 1; omega
      rcases hres with h | ⟨h, hb⟩ | ⟨p, hp, he⟩
      · rw [e, it_neg h] at h0; omega
      · right
        obtain ⟨_, i', hi', m', hm'⟩ := (hbl _).1 hb
        have hbd := it_bd hf (show -1 ≤ ((i : Nat) : Int) by omega) (by omega) m
        refine (hbl _).2 ⟨by omega, i', hi', m - L' + m', ?_⟩
        rw [it_add, hm', e]
        rw [← e]
        have h1 : ((it r L' i).toNat : Int) = it r L' i := by omega
        rw [h1, ← e]
        omega
      · have e2 : it r m i = it r (m - (L' - p)) i := by
          rw [e, he, ← it_add]; congr 1; omega
        rw [e2]
        exact ih _ (by omega) (by rw [← e2]; exact h0)

theorem onC_end {r : List Int} (hf : Fine r) {i : Nat} (hi : i < r.length) (h : 0 ≤ it r r.length i) : OnC r (it r r.length i) := by
  obtain ⟨p, h1, h2, h3⟩ := on_cycle hf (show -1 ≤ ((i : Nat) : Int) by omega) (by omega) h
  exact ⟨h, (it_bd hf (by omega) (by omega) _).2, p, h1, h2, h3⟩

/-- The least number of steps is what it is. -/
theorem per_eq {r : List Int} {x : Int} {P : Nat} (h0 : 0 ≤ x) (h1 : x < r.length) (hP : 0 < P) (hn : P ≤ r.length) (he : it r P x = x) (hm : ∀ j, 0 < j → j < P → it r j x ≠ x) : perOf r x = P := by
  obtain ⟨a, b, c, d⟩ := per_spec (⟨h0, h1, P, hP, hn, he⟩ : OnC r x)
  rcases Nat.lt_trichotomy (perOf r x) P with h | h | h
  · exact absurd c (hm _ a h)
  · exact h
  · exact absurd he (d P hP h)

theorem per_same {r : List Int} (hf : Fine r) {x : Int} (h : OnC r x) (d : Nat) : perOf r (it r d x) = perOf r x := by
  have h2 := onC_it hf h d
  obtain ⟨a, b, c, m⟩ := per_spec h
  obtain ⟨a', b', c', m'⟩ := per_spec h2
  have e1 : it r (perOf r x) (it r d x) = it r d x := by rw [← it_add, Nat.add_comm, it_add, c]
  obtain ⟨e, he⟩ := back h d
  have e2 : it r (perOf r (it r d x)) x = x := by
    have : it r (perOf r (it r d x)) (it r e (it r d x)) = it r e (it r d x) := by rw [← it_add, Nat.add_comm, it_add, c']
    rw [he] at this
    exact this
  rcases Nat.lt_trichotomy (perOf r (it r d x)) (perOf r x) with h | h | h
  · exact absurd e2 (m _ a' h)
  · exact h
  · exact absurd e1 (m' _ a h)

theorem it_mod {r : List Int} {x : Int} (h : OnC r x) (d : Nat) : it r (d % perOf r x) x = it r d x := by
  obtain ⟨hp0, _, hpe, _⟩ := per_spec h
  have hm : ∀ m, it r (m * perOf r x) x = x := by
    intro m
    induction m with
    | zero => simp [it]
    | succ m ih => rw [Nat.add_mul, Nat.one_mul, it_add, hpe, ih]
  conv => rhs; rw [← Nat.mod_add_div d (perOf r x)]
  rw [it_add, Nat.mul_comm, hm]

theorem it_ne {r : List Int} {x : Int} (h : OnC r x) {a b : Nat} (hab : a < b) (hb : b < perOf r x) : it r a x ≠ it r b x := by
  obtain ⟨_, _, hpe, hpm⟩ := per_spec h
  intro e
  refine hpm (perOf r x - b + a) (by omega) (by omega) ?_
  rw [it_add, e, ← it_add, show perOf r x - b + b = perOf r x from by omega, hpe]

theorem cyc_nodup {r : List Int} {x : Int} (h : OnC r x) : (cyc r x).Nodup := by
  unfold cyc
  rw [List.Nodup, List.pairwise_map]
  refine List.Pairwise.imp_of_mem ?_ List.pairwise_lt_range
  intro a b ha hb hlt
  exact it_ne h hlt (List.mem_range.1 hb)

theorem filter_one {l : List Int} (hd : l.Nodup) {x : Int} (hx : x ∈ l) (f : Int → Bool) (hf : ∀ y ∈ l, f y = decide (y = x)) : (l.filter f).length = 1 := by
  induction l with
  | nil => simp at hx
  | cons a l ih =>
    rw [List.nodup_cons] at hd
    by_cases h : a = x
    · subst h
      have h1 : l.filter f = [] := by
        rw [List.filter_eq_nil_iff]
        intro y hy
        rw [hf y (by simp [hy])]
        have : y ≠ a := fun e => hd.1 (e ▸ hy)
        simp [this]
      have h2 : f a = true := by rw [hf a (by simp)]; simp
      simp [h2, h1]
    · have h2 : f a = false := by rw [hf a (by simp)]; simp [h]
      rw [List.filter_cons, h2]
      have hx' : x ∈ l := by
        rcases List.mem_cons.1 hx with e | e
        · exact absurd e.symm h
        · exact e
      simpa using ih hd.2 hx' (fun y hy => hf y (by simp [hy]))

theorem rot_cyc {r : List Int} (hf : Fine r) {x : Int} (h : OnC r x) (js : List Nat) (hjs : js = (List.range (perOf r x)).map fun j => (it r j x).toNat) (hd : js.Nodup) : rot js (minIx js) = cyc r (firstOf r x) := by
  have hl : js.length = perOf r x := by rw [hjs]; simp
  have hg : ∀ j, j < perOf r x → js.getD j 0 = (it r j x).toNat := by
    intro j hj
    rw [hjs, List.getD_eq_getElem?_getD]
    simp [hj]
  obtain ⟨q, _, hq, hq0⟩ := minTo_is r x (perOf r x)
  obtain ⟨hp0, _⟩ := per_spec h
  have hqP : q < perOf r x := by omega
  rw [← firstOf_eq] at hq
  have hmin : MinAt js q := by
    refine ⟨by omega, fun j hj => ?_⟩
    rw [hg q hqP, hg j (by omega)]
    have := first_le h j
    rw [hq] at this
    have := it_pos h q
    omega
  rw [minAt_eq hd hmin]
  unfold rot cyc
  rw [hl, hq, per_same hf h]
  refine List.map_congr_left fun t _ => ?_
  unfold rotAt
  rw [hl, hg _ (Nat.mod_lt _ hp0), it_mod h, Nat.add_comm, it_add]
  have := it_pos (onC_it hf h q) t
  omega

theorem DInv.step {r : List Int} (hf : Fine r) {k : Nat} (hk : k < r.length) (h : DInv r k (dcAll r k)) : DInv r (k + 1) (dcAll r (k + 1)) := by
  obtain ⟨L, res, hw, _, hLn, hp, hn, hres⟩ := dcWalk_spec hf (bl := (dcAll r k).1) hk (r.length + 1) 0 (by omega) (fun j hj => by omega) (by simp [pth]) (by show (0 : Int) ≤ (k : Int); omega)
  have hw : dcWalk r (dcAll r k).1 (r.length + 1) k [] = (pth r k L, res) := hw
  rw [dcAll_succ]
  rcases hs : dcAll r k with ⟨bl, mk, cy⟩
  rw [hs] at h hw hp hres
  have hbl := h.bl
  simp only at hbl hw hp hres
  have hpath := on_path hf (bl := bl) (k := k) (L' := L) hk hbl (by
    rcases hres with ⟨_, hr | hr⟩ | ⟨p, _, hr⟩
    · exact Or.inl hr
    · exact Or.inr (Or.inl hr)
    · exact Or.inr (Or.inr ⟨p, hr⟩))
  have hbl' : ∀ j, (bl j || decide (j ∈ pth r k L)) = true ↔ (j < r.length ∧ ∃ i, i < k + 1 ∧ ∃ m, it r m i = (j : Int)) := by
    intro j
    constructor
    · intro hj
      rw [Bool.or_eq_true] at hj
      rcases hj with hj | hj
      · obtain ⟨a, i, hi, m, hm⟩ := (hbl j).1 hj
        exact ⟨a, i, by omega, m, hm⟩
      · have hj := of_decide_eq_true hj
        obtain ⟨m, hm, he⟩ := List.mem_map.1 hj
        have := (hp m (List.mem_range.1 hm)).1
        exact ⟨pth_bd hf hk (fun j hj => (hp j hj).1) j hj, k, by omega, m, by omega⟩
    · rintro ⟨hjn, i, hi, m, hm⟩
      rw [Bool.or_eq_true]
      rcases Nat.lt_succ_iff_lt_or_eq.1 hi with hi | hi
      · exact Or.inl ((hbl j).2 ⟨hjn, i, hi, m, hm⟩)
      · subst hi
        have := hpath m (by omega)
        rw [hm] at this
        rcases this with h | h
        · exact Or.inr (by simpa using h)
        · exact Or.inl (by simpa using h)
  rcases hres with ⟨rfl, hend⟩ | ⟨p, rfl, hpL, hpe⟩
  · have e1 : dcStep r (bl, mk, cy) k = (fun j => bl j || decide (j ∈ pth r k L), mk, cy) := by
      unfold dcStep; simp only [hw]
    rw [e1]
    refine ⟨hbl', ?_, fun j hj => by rw [Bool.or_eq_true]; exact Or.inl (h.mb j hj), fun c hc x hx => ⟨(h.el c hc x hx).1, by rw [Bool.or_eq_true]; exact Or.inl (h.el c hc x hx).2⟩, h.ct, h.one⟩
    have hcy : cy = specTo r k := h.cy
    show cy = specTo r (k + 1)
    rw [specTo_succ, hcy]
    by_cases h0 : it r r.length k < 0
    · unfold specStep; rw [if_pos h0]
    · have h0' : 0 ≤ it r r.length k := by omega
      have hyc := onC_end hf hk h0'
      rcases hend with hneg | ⟨hx0, hxb⟩
      · have : it r r.length k = it r (r.length - L) (it r L k) := by rw [← it_add]; congr 1; omega
        rw [this, it_neg hneg] at h0'
        omega
      · obtain ⟨_, i', hi', m, hm⟩ := (hbl _).1 hxb
        have hm : it r m i' = it r L k := by rw [hm]; omega
        have hi'n : i' < r.length := by omega
        have hz : it r (r.length - L + m) i' = it r r.length k := by rw [it_add, hm, ← it_add]; congr 1; omega
        have hz0 : 0 ≤ it r r.length i' := by
          refine Int.not_lt.1 fun hlt => ?_
          have h1 : it r (r.length - L + m) (it r r.length i') = it r r.length (it r r.length k) := by rw [← it_add, Nat.add_comm, it_add, hz]
          have h2 := it_pos hyc r.length
          rw [← h1, it_neg hlt] at h2
          omega
        have hzc := onC_end hf hi'n hz0
        have hff : firstOf r (it r r.length i') = firstOf r (it r r.length k) := by
          rw [← first_same hf hzc (r.length - L + m), ← it_add, Nat.add_comm, it_add, hz, first_same hf hyc]
        obtain ⟨c, hc, he⟩ := spec_known k i' hi' hz0
        unfold specStep
        rw [if_neg (by omega), if_pos (by rw [List.any_eq_true]; exact ⟨c, hc, by show (c.headD 0 == _) = true; rw [he, hff]; exact beq_self_eq_true _⟩)]
  · obtain ⟨x, hx⟩ : ∃ x, x = it r p k := ⟨_, rfl⟩
    have hx0 : 0 ≤ x := by rw [hx]; exact (hp p hpL).1
    have hxn : x < r.length := by rw [hx]; exact (it_bd hf (by omega) (by omega) p).2
    have hoff : ∀ j, it r j x = it r (p + j) k := fun j => by rw [hx, ← it_add, Nat.add_comm]
    have hinj : ∀ a b, a < b → b < L → it r a k ≠ it r b k := by
      intro a b hab hb e
      rw [List.Nodup, List.pairwise_iff_getElem] at hn
      have := hn a b (by rw [pth_len]; omega) (by rw [pth_len]; omega) hab
      apply this
      simp [pth, e]
    have hPx : it r (L - p) x = x := by rw [hoff, show p + (L - p) = L from by omega, hpe, hx]
    have hper : perOf r x = L - p := per_eq hx0 hxn (by omega) (by omega) hPx (fun j hj hjP e => by
      rw [hoff, hx] at e
      exact hinj p (p + j) (by omega) (by omega) e.symm)
    have hxc : OnC r x := ⟨hx0, hxn, L - p, by omega, by omega, hPx⟩
    have hfr : firstOf r (it r r.length k) = firstOf r x := by
      rw [show it r r.length k = it r (r.length - p) x from by rw [hoff]; congr 1; omega]
      exact first_same hf hxc _
    have hend : 0 ≤ it r r.length k := by
      rw [show it r r.length k = it r (r.length - p) x from by rw [hoff]; congr 1; omega]
      exact it_pos hxc _
    have hfree : ∀ j, j < L - p → bl (it r j x).toNat = false := fun j hj => by rw [hoff]; exact (hp _ (by omega)).2
    have hfc := onC_first hf hxc
    obtain ⟨q, hq⟩ := first_is (r := r) (x := x)
    have hdrop : (pth r k L).drop p = (List.range (perOf r x)).map fun j => (it r j x).toNat := by
      rw [hper]
      apply List.ext_getElem?
      intro j
      rw [List.getElem?_drop]
      by_cases hj : j < L - p
      · rw [pth_get r k L _ (by omega)]
        simp [hj, hoff]
      · rw [List.getElem?_eq_none (by rw [pth_len]; omega), List.getElem?_eq_none (by simp; omega)]
    have hrot := rot_cyc hf hxc _ hdrop (hn.sublist (List.drop_sublist _ _))
    have hat : ∀ j, (pth r k L)[p]? = some j ↔ j = x.toNat := by
      intro j
      rw [pth_get r k L p hpL, hx]
      simp only [Option.some.injEq]
      exact ⟨fun e => e.symm, fun e => e.symm⟩
    have e1 : dcStep r (bl, mk, cy) k = (fun j => bl j || decide (j ∈ pth r k L), fun j => mk j || decide (j = x.toNat), cy ++ [cyc r (firstOf r x)]) := by
      unfold dcStep
      simp only [hw]
      rw [hrot]
      congr 2
      funext j
      congr 1
      exact decide_eq_decide.2 (hat j)
    rw [e1]
    have hxb : bl x.toNat = false := hfree 0 (by omega)
    have hmem : ∀ y ∈ cyc r (firstOf r x), ∃ j, j < L - p ∧ y = it r j x := by
      intro y hy
      obtain ⟨t, _, rfl⟩ := List.mem_map.1 hy
      rw [hq, ← it_add]
      obtain ⟨j, hj, he⟩ := mem_cyc hxc (t + q)
      exact ⟨j, by omega, he⟩
    have hcy : cy = specTo r k := h.cy
    refine ⟨hbl', ?_, ?_, ?_, ?_, ?_⟩
    · show cy ++ _ = specTo r (k + 1)
      rw [specTo_succ, ← hcy]
      unfold specStep
      rw [if_neg (by omega), hfr, if_neg]
      rw [List.any_eq_true]
      rintro ⟨c, hc, he⟩
      rw [hcy] at hc
      obtain ⟨i', hi', h0', hce⟩ := spec_from k c hc
      have he : c.headD 0 = firstOf r x := by simpa using he
      rw [hce, cyc_head] at he
      obtain ⟨m', hm'⟩ := first_is (r := r) (x := it r r.length i')
      have hb : bl (firstOf r x).toNat = true := by
        refine (hbl _).2 ⟨by have := hfc.2.1; have := hfc.1; omega, i', hi', m' + r.length, ?_⟩
        rw [it_add, ← hm', he]
        have := hfc.1
        omega
      obtain ⟨j, hj, hje⟩ := mem_cyc hxc q
      rw [hq, hje, hfree j (by omega)] at hb
      cases hb
    · intro j hj
      show (bl j || _) = true
      rcases Bool.or_eq_true .. ▸ hj with hj | hj
      · rw [Bool.or_eq_true]; exact Or.inl (h.mb j hj)
      · rw [Bool.or_eq_true]
        right
        have hj : j = x.toNat := by simpa using hj
        simp only [decide_eq_true_eq]
        rw [hj, hx]
        exact List.mem_map.2 ⟨p, List.mem_range.2 hpL, rfl⟩
    · intro c hc y hy
      show 0 ≤ y ∧ (bl y.toNat || _) = true
      rcases List.mem_append.1 hc with hc | hc
      · exact ⟨(h.el c hc y hy).1, by rw [Bool.or_eq_true]; exact Or.inl (h.el c hc y hy).2⟩
      · rw [List.mem_singleton.1 hc] at hy
        obtain ⟨j, hj, rfl⟩ := hmem y hy
        refine ⟨it_pos hxc j, ?_⟩
        rw [Bool.or_eq_true]
        right
        simp only [decide_eq_true_eq]
        rw [hoff]
        exact List.mem_map.2 ⟨p + j, List.mem_range.2 (by omega), rfl⟩
    · show cnt r.length (fun j => mk j || decide (j = x.toNat)) = (cy ++ [cyc r (firstOf r x)]).length
      have hmk : mk x.toNat = false := by
        cases hm : mk x.toNat with
        | false => rfl
        | true => have := h.mb _ hm; simp only at this; rw [hxb] at this; cases this
      rw [cnt_put _ _ _ (by omega) hmk]
      have := h.ct
      simp only at this
      rw [this]
      simp
    · intro c hc
      show (c.filter fun y => mk y.toNat || decide (y.toNat = x.toNat)).length = 1
      rcases List.mem_append.1 hc with hc | hc
      · have := h.one c hc
        simp only at this
        rw [← this]
        congr 1
        refine List.filter_congr fun y hy => ?_
        have hb := (h.el c hc y hy).2
        simp only at hb
        have : ¬ y.toNat = x.toNat := fun e => by rw [e, hxb] at hb; cases hb
        simp [this]
      · rw [List.mem_singleton.1 hc]
        obtain ⟨e, he⟩ := back hxc q
        rw [← hq] at he
        obtain ⟨t, ht, hte⟩ := mem_cyc hfc e
        rw [he] at hte
        refine filter_one (cyc_nodup hfc) (x := x) (List.mem_map.2 ⟨t, List.mem_range.2 ht, hte.symm⟩) _ ?_
        intro y hy
        obtain ⟨j, hj, rfl⟩ := hmem y hy
        have hmk : mk (it r j x).toNat = false := by
          cases hm : mk (it r j x).toNat with
          | false => rfl
          | true => have := h.mb _ hm; simp only at this; rw [hfree j hj] at this; cases this
        rw [hmk, Bool.false_or]
        have := it_pos hxc j
        refine decide_eq_decide.2 ⟨fun e => by omega, fun e => by rw [e]⟩

theorem dInv_all {r : List Int} (hf : Fine r) : ∀ k, k ≤ r.length → DInv r k (dcAll r k)
  | 0, _ => DInv.zero r
  | k + 1, h => (dInv_all hf k (by omega)).step hf (by omega)

/-- THE PLAIN LAW: the cycles that are found are those of the definition, in its order. -/
theorem dc_cycles {r : List Int} (hf : Fine r) : (dcAll r r.length).2.2 = specDC r := (dInv_all hf _ (Nat.le_refl _)).cy

end Go.Proofs.Ytnaedpfaeioolaa
