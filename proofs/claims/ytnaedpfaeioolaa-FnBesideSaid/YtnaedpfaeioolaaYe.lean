/- The contract of spec.expand: the defined types that stand in a type are added, each one once. -/
import Derived.Test.YtnaedpfaeioolaaYd
import Derived.Test.YtnaedpfaeioolaaD2
namespace Go.Proofs.Ytnaedpfaeioolaa
open Go.RowKit
set_option linter.unusedVariables false

theorem mem_ints {n : Nat} {R : List Nat} : (n : Int) ∈ ints R ↔ n ∈ R := by
  unfold ints
  rw [List.mem_map]
  constructor
  · rintro ⟨a, ha, e⟩
    have : a = n := by
      have e' : (a : Int) = (n : Int) := e
      omega
    subst this
    exact ha
  · intro h
    exact ⟨n, h, rfl⟩

/-- Whether a number is in a list of the program's own. -/
theorem has_own {w : World} {B : Nat} {v : Value} {R : List Nat} (h : w.ownsRow B 3 1 v R.length ((ints R).map (Value.int .i64))) (n : Nat) :
    Calls Try.prog 38 #[v, .int .i64 (n : Int)] w fun e w' => e = .returned (.bool (decide (n ∈ R))) ∧ w = w' := by
  have hl : R.length = (ints R).length := by simp [ints]
  rw [hl] at h
  obtain ⟨a, cap, rfl, h1, h2, h3⟩ := own_slice h
  refine (has_any a cap (ints R) n w h1 (by simpa [maxLen] using h2) h3).mono fun e w' ⟨e1, e2⟩ => ⟨?_, e2⟩
  rw [e1]
  simp only [mem_ints]

/-- What one name that a type has stands for. -/
def exF (ds : List D) (f n : Nat) : List Nat := if alOf ds n = true then (match f with | 0 => [] | g + 1 => flatF ds g (ofOf ds n)) else [n]

theorem flatF_dir (ds : List D) (f : Nat) (t : T) : flatF ds f t = (dirL t).flatMap (exF ds f) := by
  induction t using T.ind with
  | _ k n es ih =>
    rw [flatF.eq_def]
    simp only []
    by_cases h1 : k = 1
    · subst h1
      rw [dirL_name]
      simp only [List.flatMap_cons, List.flatMap_nil, List.append_nil, if_true]
      unfold exF
      rfl
    · rw [if_neg h1]
      by_cases h2 : 3 ≤ k ∧ k ≤ 6
      · rw [if_pos h2, dirL_row _ _ _ h2]
        clear h1 h2
        induction es with
        | nil => rfl
        | cons e es ihes =>
          rw [List.flatMap_cons, List.flatMap_cons, List.flatMap_append, ih e (by simp), ihes fun e' he' => ih e' (by simp [he'])]
      · rw [if_neg h2, dirL, if_neg h1, if_neg h2]
        rfl

theorem dirL_ok {N : Nat} {t : T} (h : Ok N t) : ∀ n ∈ dirL t, n < N := by
  induction h with
  | mk k n es h0 h6 h3 hn ha he ih =>
    intro x hx
    rw [dirL] at hx
    split at hx
    · rename_i h1
      simp at hx
      have := hn h1
      omega
    · split at hx
      · obtain ⟨e, he1, he2⟩ := List.mem_flatMap.1 hx
        exact ih e he1 x he2
      · simp at hx

theorem dirL_at {ds : List D} {m : Nat} {t : T} (h : AT ds m t) : ∀ n ∈ dirL t, alOf ds n = true → m ≤ n := by
  induction h with
  | mk k n es ha he ih =>
    intro x hx hal
    rw [dirL] at hx
    split at hx
    · rename_i h1
      simp at hx
      subst hx
      exact ha h1 hal
    · split at hx
      · obtain ⟨e, he1, he2⟩ := List.mem_flatMap.1 hx
        exact ih e he1 x he2 hal
      · simp at hx

/-- What a list of defined types, each one once, says. -/
structure Uni (N : Nat) (R : List Nat) : Prop where
  nodup : R.Nodup
  lt : ∀ x ∈ R, x < N
theorem Uni.len {N : Nat} {R : List Nat} (h : Uni N R) : R.length ≤ N := nodup_le N R h.nodup h.lt
theorem Uni.snoc {N : Nat} {R : List Nat} {n : Nat} (h : Uni N R) (hn : n < N) (hnin : n ∉ R) : Uni N (R ++ [n]) := by
  refine ⟨?_, fun x hx => ?_⟩
  · rw [List.nodup_append]
    refine ⟨h.nodup, by simp, ?_⟩
    intro a ha b hb
    simp at hb
    subst hb
    intro e
    exact hnin (e ▸ ha)
  · simp at hx
    rcases hx with hx | rfl
    · exact h.lt x hx
    · exact hn

def EPost (ds : List D) (B : Nat) (w : World) (v : Value) (out L : List Nat) (e : Ending) (w' : World) : Prop :=
  ∃ (v' : Value) (R : List Nat), e = .returned v' ∧ w'.ownsRow B 3 1 v' R.length ((ints R).map (Value.int .i64)) ∧ Grw w w' v v' ∧ Uni ds.length R ∧ ∀ x, x ∈ R ↔ x ∈ out ∨ x ∈ L

def XLoop (ds : List D) (f B : Nat) (w : World) (v : Value) (out L : List Nat) (B2 : Nat) (dl vs i : Value) (wr : World) : Prop :=
  ∃ (k : Nat) (R : List Nat), k ≤ L.length ∧ i = .int .i64 k ∧ wr.ownsRow B 3 1 vs R.length ((ints R).map (Value.int .i64)) ∧ Grw w wr v vs ∧ Uni ds.length R ∧ (∀ x, x ∈ R ↔ x ∈ out ∨ x ∈ (L.take k).flatMap (exF ds f)) ∧
    wr.ownsRow B2 3 1 dl L.length ((ints L).map (Value.int .i64)) ∧ ∀ b, dl.ownBlock = some b → vs.ownBlock ≠ some b

theorem own_grw {w w' : World} {B : Nat} {e : TypeId} {size n : Nat} {d v v' : Value} {xs : List Value} (h : w.ownsRow B e size d n xs) (hg : Grw w w' v v') (hd : ∀ b, d.ownBlock = some b → v.ownBlock ≠ some b) :
    w'.ownsRow B e size d n xs ∧ ∀ b, d.ownBlock = some b → v'.ownBlock ≠ some b := by
  refine ⟨own_keep h fun g hgd => hg.by_.block g (h.lt g hgd).2 fun e => hd g hgd e.symm, fun b hb e => ?_⟩
  rcases hg.blk b e with h1 | h1
  · exact hd b hb h1
  · have := (h.lt b hb).2; omega

set_option maxHeartbeats 4000000 in
set_option maxRecDepth 100000 in
theorem expand_any (ds : List D) (hds : DOk ds) (hN : ds.length ≤ 100) (hdir : ∀ n, n < ds.length → (dirL (ofOf ds n)).length ≤ 1000) (w0 : World) (lv : Value) (hdv : DV w0 lv ds) : ∀ (f m : Nat), ds.length ≤ m + f → ∀ (t : T), Ok ds.length t → AT ds m t → (dirL t).length ≤ 1000 →
    ∀ (w : World) (B : Nat) (v tv : Value) (out : List Nat), Below w0.heap.size w0 w → w0.heap.size ≤ B → B ≤ w.heap.size → TV w0 Any tv t → w.ownsRow B 3 1 v out.length ((ints out).map (Value.int .i64)) → Uni ds.length out →
    Calls Try.prog 37 #[lv, tv, v] w (EPost ds B w v out (flatF ds f t)) := by
  intro f
  induction f using Nat.strongRecOn with
  | _ f ih =>
    intro m hm t hok hat hdl w B v tv out hb0 hB0 hB htv hown hun
    obtain ⟨la, lcap, rfl, hlc1, hlc2⟩ : ∃ a cap, lv = .slice a ds.length cap ∧ ds.length ≤ cap ∧ cap ≤ 9223372036854775807 := by
      obtain ⟨a, cap, _, rfl, h1, h2, _⟩ := id hdv
      exact ⟨a, cap, rfl, h1, by simpa [maxLen] using h2⟩
    rw [flatF_dir ds f t]
    obtain ⟨kt, nt, ta, tcap, ts, ps, rfl, -⟩ := htv.form
    have hol := hun.len
    have Hdv := Lib.hid hdv
    have Hown := Lib.hid hown
    obtain ⟨va, vc, rfl, _, _, _⟩ := own_slice hown
    clear hown
    have Hun := Lib.hid hun; clear hun
    have Ih := Lib.hid ih; clear ih
    have Hhat := Lib.hid (dirL_at hat); clear hat
    have Hhok := Lib.hid (dirL_ok hok)
    have hg1 : Grw w (w.alloc (.cells #[.int .i64 kt, .int .i64 nt, .slice ta ts.length tcap] 45)) (.slice va out.length vc) (.slice va out.length vc) := Grw.alloc w _ _
    have hd43 := direct_any ds.length t hok (w.alloc (.cells #[.int .i64 kt, .int .i64 nt, .slice ta ts.length tcap] 45)) (w.heap.size + 1) (.slice none 0 0) (.agg #[.int .i64 kt, .int .i64 nt, .slice ta ts.length tcap]) [] (World.ownsRow_nil _ _ _ _) (by simp) (by simp; omega)
      (((htv.mono (S' := fun b => b < w0.heap.size) fun _ _ h => h).ext (hb0.trans (((Below.refl w.heap.size w).alloc (Nat.le_refl _) _).mono hb0.size))).mono fun b _ _ => by simp [Value.ownBlock])
    have Hd43 := Lib.hid hd43; clear hd43 hok
    have Hg1 := Lib.hid hg1; clear hg1
    have Hb0 := Lib.hid hb0; clear hb0 htv
    have Hdir := Lib.hid hdir
    go_enter Try.func37, Try.ntmps37
    go_wp2_with fail
    go_at_call 43
    refine Hd43.out.mono ?_
    rintro e w2 ⟨dl, rfl, hdown, hdg⟩
    simp only [List.nil_append] at hdown
    have hL : (ints (dirL t)).length = (dirL t).length := by simp [ints]
    rw [hL] at hdown
    generalize hLe : dirL t = L at hdown hdl Hhat Hhok
    have HLe := Lib.hid hLe
    clear hL hLe
    have hb12 : Below (w.heap.size + 1) (w.alloc (.cells #[.int .i64 kt, .int .i64 nt, .slice ta ts.length tcap] 45)) w2 := (hdg.none rfl).mono (by simp)
    have Hdown := Lib.hid hdown
    obtain ⟨da, dc, rfl, _, _, _⟩ := own_slice hdown
    have hbw2 : Below w.heap.size w w2 := ((Below.refl _ _).alloc (Nat.le_refl _) _).trans (hb12.mono (by omega))
    have Hbw2 := Lib.hid hbw2
    clear hdown hdg hb12 hbw2 Hd43
    have hstart : XLoop ds f B w (.slice va out.length vc) out L (w.heap.size + 1) (.slice da L.length dc) (.slice va out.length vc) (.int .i64 0) w2 := by
      refine ⟨0, out, Nat.zero_le _, rfl, own_ext Hown.out Hbw2.out, Grw.below _ Hbw2.out, Hun.out, by simp, Hdown.out, fun b hb e => ?_⟩
      have h1 := (Hdown.out.lt b hb).1
      have h2 := (Hown.out.lt b e).2
      omega
    have Hstart := Lib.hid hstart; clear hstart
    go_wp2_with fail
    go_loopw [2, 12] (XLoop ds f B w (.slice va out.length vc) out L (w.heap.size + 1) (.slice da L.length dc)) (fun _ i _ => L.length - (intOf i).toNat)
    case atStart => exact Hstart.out
    case round =>
      obtain ⟨k, R, hk, rfl, howr, hgr, huni, hmem, hdlr, hdis⟩ := hrel
      clear Hstart Hdown Hbw2
      have hRl := huni.len
      have Howr := Lib.hid howr
      obtain ⟨ra, rc, hvr, _, _, _⟩ := own_slice howr
      subst hvr
      clear howr
      have Hgr := Lib.hid hgr; clear hgr
      have Huni := Lib.hid huni; clear huni
      have Hmem := Lib.hid hmem; clear hmem
      have Hdlr := Lib.hid hdlr; clear hdlr
      have Hdis := Lib.hid hdis; clear hdis
      by_cases hlt : k < L.length
      · obtain ⟨gb, go, rfl, z0⟩ := own_row Hdlr.out k (.int .i64 ((L[k] : Nat) : Int)) (by rw [List.getElem?_map]; simp [ints, hlt])
        have hLm := List.getElem_mem hlt
        have htk : ∀ x, x ∈ (L.take (k + 1)).flatMap (exF ds f) ↔ x ∈ (L.take k).flatMap (exF ds f) ∨ x ∈ exF ds f L[k] := by
          intro x
          rw [List.take_succ_eq_append_getElem hlt, List.flatMap_append, List.mem_append]
          simp
        have hn := Hhok.out _ hLm
        have hat := Hhat.out _ hLm
        generalize L[k] = n at z0 hLm htk hn hat
        have Htk := Lib.hid htk; clear htk
        have hbr : Below w0.heap.size w0 wr := ⟨Hgr.out.by_.os.trans Hb0.out.os, Hgr.out.by_.tape.trans Hb0.out.tape, Hgr.out.by_.output.trans Hb0.out.output, Nat.le_trans Hb0.out.size Hgr.out.size, fun b hb => by
          rw [Hgr.out.by_.block b (by have := Hb0.out.size; omega) (fun e => by have := (Hown.out.lt b e.symm).1; omega), Hb0.out.block b hb]⟩
        obtain ⟨b, o, kd, md, x, y, rfl, x0, x1, x2, x3, ht⟩ := Hdv.out.at hn
        obtain ⟨xl, xc⟩ := y
        have y0 := cell_later hbr x0
        have y1 := cell_later hbr x1
        have y2 := cell_later hbr x2
        have y3 := cell_later hbr x3
        simp only at y3
        clear x0 x1 x2 x3
        have Hbr := Lib.hid hbr; clear hbr
        cases hal : alOf ds n
        · have Hex := Lib.hid (show exF ds f n = [n] by unfold exF; rw [hal]; rfl)
          rw [hal] at y0
          have Hal := Lib.hid hal; clear hal
          have hhas := has_own Howr.out n
          by_cases hin : n ∈ R
          · rw [decide_eq_true hin] at hhas
            have Hhas := Lib.hid hhas; clear hhas
            have hm2 : ∀ x, x ∈ R ↔ x ∈ out ∨ x ∈ (L.take (k + 1)).flatMap (exF ds f) := by
              intro x
              rw [Htk.out, Hex.out, ← or_assoc, ← Hmem.out x]
              simp
              rintro rfl
              exact hin
            have Hm2 := Lib.hid hm2; clear hm2
            have Hin := Lib.hid hin; clear hin
            go_wp2_with (go_at_call 38; refine Hhas.out.mono ?_; rintro e w' ⟨rfl, rfl⟩)
            go_roundw
            case rel => unfold XLoop; exact ⟨k + 1, R, by omega, by go_num, Howr.out, Hgr.out, Huni.out, Hm2.out, Hdlr.out, Hdis.out⟩
            case measure => simp [intOf]; omega
          · rw [decide_eq_false hin] at hhas
            have Hhas := Lib.hid hhas; clear hhas
            have Hin := Lib.hid hin; clear hin
            go_wp2_with (first
              | (go_at_call 38; refine Hhas.out.mono ?_; rintro e w' ⟨rfl, rfl⟩)
              | (at_builtin; refine wpList_app1 _ rfl (.tmp 33) (.tmp 35) 22 rfl B 3 _ 8 Try.underlying22 Try.info3 rfl _ R.length _ _ rfl rfl Howr.out rfl ?_ ?_ ?_ ?_))
            · simp only [maxLen]; omega
            · omega
            · have := Hgr.out.size; omega
            intro v' w3 g1 _ g3 g4
            have hg : Grw wr w3 (.slice ra R.length rc) v' := ⟨g3, g4⟩
            obtain ⟨hd1, hd2⟩ := own_grw Hdlr.out hg Hdis.out
            have ho : w3.ownsRow B 3 1 v' (R ++ [n]).length ((ints (R ++ [n])).map (Value.int .i64)) := by rw [ints_append]; simpa [ints] using g1
            obtain ⟨ra', rc', hv', _, _, _⟩ := own_slice g1
            subst hv'
            have hm2 : ∀ x, x ∈ R ++ [n] ↔ x ∈ out ∨ x ∈ (L.take (k + 1)).flatMap (exF ds f) := by
              intro x
              rw [Htk.out, Hex.out, ← or_assoc, ← Hmem.out x]
              simp
            have Hm2 := Lib.hid hm2
            have Ho := Lib.hid ho
            have Hg := Lib.hid (Hgr.out.trans hg)
            have Hd1 := Lib.hid hd1
            have Hd2 := Lib.hid hd2
            clear hm2 ho hg hd1 hd2 g1 g3 g4
            go_wp2_with fail
            go_roundw
            case rel => unfold XLoop; exact ⟨k + 1, R ++ [n], by omega, by go_num, Ho.out, Hg.out, Huni.out.snoc hn Hin.out, Hm2.out, Hd1.out, Hd2.out⟩
            case measure => simp [intOf]; omega
        · have hmn := hat hal
          obtain ⟨g', rfl⟩ : ∃ g', f = g' + 1 := ⟨f - 1, by omega⟩
          have Hex := Lib.hid (show exF ds (g' + 1) n = flatF ds g' (ofOf ds n) by unfold exF; rw [hal]; rfl)
          have hrec := Ih.out g' (Nat.lt_succ_self g') (n + 1) (by omega) (ofOf ds n) (hds.of hn) (hds.at_ hn hal) (Hdir.out n hn) wr B (.slice ra R.length rc) (.agg #[.int .i64 kd, .int .i64 md, .slice x xl xc]) R Hbr.out hB0 (by have := Hgr.out.size; omega) ht Howr.out Huni.out
          have Hrec := Lib.hid hrec; clear hrec
          rw [hal] at y0
          clear hat hal
          have Ht := Lib.hid ht; clear ht
          go_wp2_with (go_at_call 37; refine Hrec.out.mono ?_; rintro e w3 ⟨v', R', rfl, ho, hg, hu, hm2⟩; have Ho := Lib.hid ho; have Hg := Lib.hid hg; have Hu := Lib.hid hu; have Hm2 := Lib.hid hm2; clear ho hg hu hm2)
          obtain ⟨hd1, hd2⟩ := own_grw Hdlr.out Hg.out Hdis.out
          have hm3 : ∀ x, x ∈ R' ↔ x ∈ out ∨ x ∈ (L.take (k + 1)).flatMap (exF ds (g' + 1)) := by
            intro x
            rw [Htk.out, Hex.out, ← or_assoc, ← Hmem.out x]
            exact Hm2.out x
          have Hm3 := Lib.hid hm3
          have Hd1 := Lib.hid hd1
          have Hd2 := Lib.hid hd2
          have Hg3 := Lib.hid (Hgr.out.trans Hg.out)
          clear hm3 hd1 hd2
          go_roundw
          case rel => unfold XLoop; exact ⟨k + 1, R', by omega, by go_num, Ho.out, Hg3.out, Hu.out, Hm3.out, Hd1.out, Hd2.out⟩
          case measure => simp [intOf]; omega
      · have hke : k = L.length := by omega
        subst hke
        have hm2 := Hmem.out
        rw [List.take_of_length_le (Nat.le_refl _)] at hm2
        have Hm2 := Lib.hid hm2; clear hm2
        go_wp2_with fail
        go_ret
        exact ⟨_, R, rfl, Howr.out, Hgr.out, Huni.out, by rw [HLe.out]; exact Hm2.out⟩

end Go.Proofs.Ytnaedpfaeioolaa
