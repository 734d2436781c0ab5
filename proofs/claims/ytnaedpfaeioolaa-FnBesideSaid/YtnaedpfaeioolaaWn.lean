/- The contract of ValidTypes: it answers as the plain check does. -/
import Derived.Test.YtnaedpfaeioolaaWm
import Derived.Deep.QuietTactic
import Derived.BigQuiet
namespace Go.Proofs.Ytnaedpfaeioolaa
open Go.RowKit
set_option linter.unusedVariables false

def VTPost (ds : List D) (w : World) (e : Ending) (w' : World) : Prop :=
  ∃ a b c, e = .returned (.tuple #[a, b, c]) ∧ w'.ownsRow w.heap.size 4 1 a ds.length ((vtValid (alOf ds) (GG ds) ds.length).map Value.bool) ∧ w'.ownsRow w.heap.size 4 1 b ds.length ((vtMarked (alOf ds) (GG ds) ds.length).map Value.bool) ∧
    LLO w' w.heap.size c (vtCycles (alOf ds) (GG ds) ds.length) ∧ Below w.heap.size w w'

/-- The same, and the two rows of truth values do not share memory. -/
def VTPostD (ds : List D) (w : World) (e : Ending) (w' : World) : Prop :=
  ∃ a b c, e = .returned (.tuple #[a, b, c]) ∧ w'.ownsRow w.heap.size 4 1 a ds.length ((vtValid (alOf ds) (GG ds) ds.length).map Value.bool) ∧ w'.ownsRow w.heap.size 4 1 b ds.length ((vtMarked (alOf ds) (GG ds) ds.length).map Value.bool) ∧
    LLO w' w.heap.size c (vtCycles (alOf ds) (GG ds) ds.length) ∧ Below w.heap.size w w' ∧ ∀ k, b.ownBlock = some k → a.ownBlock ≠ some k
theorem VTPostD.post {ds : List D} {w w' : World} {e : Ending} (h : VTPostD ds w e w') : VTPost ds w e w' := by
  obtain ⟨a, b, c, h1, h2, h3, h4, h5, _⟩ := h
  exact ⟨a, b, c, h1, h2, h3, h4, h5⟩

def R1 (ds : List D) (w : World) (tv i : Value) (wr : World) : Prop := ∃ (k : Nat) (NB OB : Nat → Nat), k ≤ ds.length ∧ i = .int .i64 k ∧ TP ds NB OB w.heap.size w.heap.size (.pointer none) (.slice none 0 0) (.map none) w tv k 0 wr
def R2 (ds : List D) (NB OB : Nat → Nat) (w : World) (tv i : Value) (wr : World) : Prop := ∃ (k : Nat), k ≤ ds.length ∧ i = .int .i64 k ∧ TP ds NB OB w.heap.size w.heap.size (.pointer none) (.slice none 0 0) (.map none) w tv ds.length k wr
def R3 (ds : List D) (NB OB : Nat → Nat) (w : World) (tv vv i : Value) (wr : World) : Prop := ∃ (k : Nat), k ≤ ds.length ∧ i = .int .i64 k ∧ S3 ds NB OB w.heap.size w.heap.size (.pointer none) (.slice none 0 0) (.map none) w tv vv k wr
def R4 (ds : List D) (NB OB : Nat → Nat) (w : World) (tv vv mv i : Value) (wr : World) : Prop := ∃ (k : Nat), k ≤ ds.length ∧ i = .int .i64 k ∧ S4 ds NB OB w.heap.size w.heap.size (.pointer none) (.slice none 0 0) (.map none) w tv vv mv k wr

theorem ta_nv97 (al : Nat → Bool) (NB : Nat → Nat) (n : Nat) (b : Bool) (h : al n = b) (W : World) : (Instr.typeAssert (nv al NB n) 80 97 true).run Try.prog W = .ok (.tuple #[.pointer (if b = true then some ⟨NB n, 0, none⟩ else none), .bool b]) W := by
  unfold nv
  rw [h]
  cases b
  · exact ta_100_97 _ _
  · exact ta_97_97 _ _
theorem ta_nv100 (al : Nat → Bool) (NB : Nat → Nat) (n : Nat) (b : Bool) (h : al n = b) (W : World) : (Instr.typeAssert (nv al NB n) 80 100 true).run Try.prog W = .ok (.tuple #[.pointer (if b = true then none else some ⟨NB n, 0, none⟩), .bool (!b)]) W := by
  unfold nv
  rw [h]
  cases b
  · exact ta_100_100 _ _
  · exact ta_97_100 _ _

theorem not_basic_ta {al : Nat → Bool} {NB : Nat → Nat} {N : Nat} {w : World} {S : Nat → Prop} {v : Value} {t : T} (h : TyV al NB w S 0 v t) (hok : Ok N t) : (∃ b, v = .iface 106 (.pointer (some ⟨b, 0, none⟩)) ∧ w.cell? ⟨b, 0, none⟩ = some (.bool false)) ∨ NoTa v 106 := by
  obtain ⟨k, n, es, h0, h6, h3, hn1, ha, he⟩ := hok
  rcases (show k = 0 ∨ k = 1 ∨ k = 2 ∨ k = 3 ∨ 4 ≤ k by omega) with rfl | rfl | rfl | rfl | hk
  · obtain ⟨b, rfl, hb⟩ := h.inv0
    exact Or.inl ⟨b, rfl, cell_of_one hb⟩
  · right
    rw [h.inv1]
    unfold nv
    cases al n.toNat
    · exact ta_100_106 _
    · exact ta_97_106 _
  · obtain ⟨a, rfl⟩ := h.inv2
    exact Or.inr (ta_114_106 _)
  · obtain ⟨b, x, t, _, rfl, _⟩ := h.inv3
    exact Or.inr (ta_117_106 _)
  · obtain ⟨ity, bty, rty, ety, b, sv, xs, hr, rfl, _⟩ := h.invR hk
    simp [rowTab] at hr
    rcases hr with ⟨_, rfl, _⟩ | ⟨_, rfl, _⟩ | ⟨_, rfl, _⟩
    · exact Or.inr (ta_120_106 _)
    · exact Or.inr (ta_127_106 _)
    · exact Or.inr (ta_130_106 _)

theorem Env.basic {ds : List D} {NB OB : Nat → Nat} {M : Nat → Bool} {w : World} (h : Env ds NB OB M w) (hds : DOk ds) {n : Nat} (hn : n < ds.length) (ha : alOf ds n = false) :
    ∃ v, w.cell? ⟨NB n, 1, none⟩ = some v ∧ ((∃ b, v = .iface 106 (.pointer (some ⟨b, 0, none⟩)) ∧ w.cell? ⟨b, 0, none⟩ = some (.bool (M n))) ∨ (M n = false ∧ NoTa v 106)) := by
  obtain ⟨v, hb, h1, h2⟩ := h.nam n hn ha
  refine ⟨v, cell_of hb 1, ?_⟩
  cases hm : M n
  · rcases not_basic_ta (h1 hm) (hds.of hn) with h3 | h3
    · exact Or.inl h3
    · exact Or.inr ⟨rfl, h3⟩
  · obtain ⟨b, e, hb2⟩ := h2 hm
    exact Or.inl ⟨b, e, cell_of_one hb2⟩

set_option maxHeartbeats 4000000 in
set_option maxRecDepth 100000 in
theorem validTypesD_any (ds : List D) (hds : DOk ds) (hN : ds.length ≤ 100) (w : World) (a : Option Addr) (cap : Nat) (hdv : DV w (.slice a ds.length cap) ds) : Calls Try.prog 34 #[.slice a ds.length cap] w (VTPostD ds w) := by
  have hcap : ds.length ≤ cap ∧ cap ≤ 9223372036854775807 := by
    obtain ⟨_, _, _, e1, h1, h2, _⟩ := hdv
    simp at e1
    obtain ⟨_, rfl⟩ := e1
    exact ⟨h1, by simpa [maxLen] using h2⟩
  obtain ⟨hcap1, hcap2⟩ := hcap
  have Hdv := Lib.hid hdv; clear hdv
  have Hds := Lib.hid hds; clear hds
  go_enter Try.func34, Try.ntmps34
  go_wp2_with fail
  go_loopw [6, 26] (R1 ds w) (fun _ i _ => ds.length - (intOf i).toNat)
  case atStart =>
    unfold R1
    refine ⟨0, id, id, Nat.zero_le _, rfl, World.ownsRow_nil _ _ _ _, by intro i j h; omega, by intro j h; omega, by intro j h; omega, by intro j h; omega, ⟨.slice none 0 0, alloc_at rfl, LLO.nil _ _⟩, (Below.refl _ _).alloc (Nat.le_refl _) _, by simp⟩
  case round =>
    obtain ⟨k, NB, OB, hk, rfl, htp⟩ := hrel
    have Htp := Lib.hid htp
    obtain ⟨ta, tc, htv, _, _, _⟩ := own_slice htp.own
    subst htv
    clear htp
    by_cases hlt : k < ds.length
    · obtain ⟨b, o, kd, md, x, y, rfl, x0, x1, x2, x3, ht⟩ := Hdv.out.at hlt
      obtain ⟨xl, xc⟩ := y
      have y0 := cell_later Htp.out.bel x0
      have y1 := cell_later Htp.out.bel x1
      have y2 := cell_later Htp.out.bel x2
      have y3 := cell_later Htp.out.bel x3
      simp only at y3
      clear x0 x1 x2 x3 ht
      cases hal : alOf ds k
      all_goals
        rw [hal] at y0
        have Hal := Lib.hid hal; clear hal
      case' false =>
        go_wp2_with (at_builtin; refine wpList_app1s _ rfl (.tmp 42) (.tmp 49) 96 rfl w.heap.size 80 _ 16 Try.underlying96 Try.info80 rfl _ k _ _ _ rfl rfl (by simp) (Htp.out.own.alloc _ |>.alloc _ |>.alloc _) rfl ?_ ?_ ?_ ?_)
      case' true =>
        go_wp2_with (at_builtin; refine wpList_app1s _ rfl (.tmp 33) (.tmp 40) 96 rfl w.heap.size 80 _ 16 Try.underlying96 Try.info80 rfl _ k _ _ _ rfl rfl (by simp) (Htp.out.own.alloc _ |>.alloc _ |>.alloc _) rfl ?_ ?_ ?_ ?_)
      all_goals first
        | (unfold maxLen; omega; done)
        | (omega; done)
        | (have := Htp.out.siz; simp; omega; done)
        | skip
      all_goals
        intro tv' w2 g1 g2 g3 g4
        obtain ⟨ta', tc', htv', _, _, _⟩ := own_slice g1
        subst htv'
      all_goals first
        | have hnew := Htp.out.more (w2 := w2) (w1 := ((wr.alloc (.cells #[.bool false, .int .i64 kd, .int .i64 md, .slice x xl xc] 58)).alloc (.cells #[.int .i64 k, .nilIface] 82)).alloc (.cells #[pv (wr.heap.size + 1), .nilIface] 101)) (O := wr.heap.size + 1) (Z := wr.heap.size + 2)
            ((((Below.refl _ _).alloc (Nat.le_refl _) _).alloc (by simp) _).alloc (by simp; omega) _) (by rw [alloc_lt (by simp), alloc_at (by simp)]) (by rw [Hal.out]; exact alloc_at (by simp)) (by omega) (by rw [Hal.out]; exact g1) g2 g3
        | have hnew := Htp.out.more (w2 := w2) (w1 := ((wr.alloc (.cells #[.bool true, .int .i64 kd, .int .i64 md, .slice x xl xc] 58)).alloc (.cells #[.int .i64 k, .nilIface] 82)).alloc (.cells #[pv (wr.heap.size + 1), .nilIface] 99)) (O := wr.heap.size + 1) (Z := wr.heap.size + 2)
            ((((Below.refl _ _).alloc (Nat.le_refl _) _).alloc (by simp) _).alloc (by simp; omega) _) (by rw [alloc_lt (by simp), alloc_at (by simp)]) (by rw [Hal.out]; exact alloc_at (by simp)) (by omega) (by rw [Hal.out]; exact g1) g2 g3
      all_goals
        have Hnew := Lib.hid hnew; clear hnew g1 g2 g3 g4
        go_wp2_with fail
        go_roundw
        case rel => unfold R1; exact ⟨k + 1, _, _, by omega, by go_num, Hnew.out⟩
        case measure => simp [intOf]; omega
    · have hke : k = ds.length := by omega
      subst hke
      go_wp2_with fail
      obtain ⟨wo, rfl⟩ : ∃ wo : World, wo = wr := ⟨_, rfl⟩
      go_loopw [54] (R2 ds NB OB w (.slice ta ds.length tc)) (fun i _ => ds.length - (intOf i).toNat)
      case atStart => unfold R2; exact ⟨0, Nat.zero_le _, rfl, Htp.out⟩
      case round =>
        obtain ⟨k, hk, rfl, htp⟩ := hrel
        clear Htp
        have Htp := Lib.hid htp; clear htp
        by_cases hlt : k < ds.length
        · obtain ⟨b, o, kd, md, x, y, rfl, x0, x1, x2, x3, ht⟩ := Hdv.out.at hlt
          obtain ⟨xl, xc⟩ := y
          have Hb := Lib.hid (fun o' : Obj => (Below.refl wr.heap.size wr).alloc (Nat.le_refl _) o')
          have y0 := cell_later Htp.out.bel x0
          have y1 := cell_later Htp.out.bel x1
          have y2 := cell_later Htp.out.bel x2
          have y3 := cell_later Htp.out.bel x3
          simp only at y3
          clear x0 x1 x2 x3
          have Ht := Lib.hid (ht.ext Htp.out.bel); clear ht
          obtain ⟨tb, to, rfl, z0⟩ := own_row Htp.out.own k (nv (alOf ds) NB k) (by rw [List.getElem?_map, List.getElem?_range hlt]; rfl)
          have z1 := fun o' => cell_later (Hb.out o') z0
          clear z0
          have Hok := Lib.hid (Hds.out.of hlt)
          obtain ⟨vv, hbk, _⟩ := Htp.out.nbs k hlt
          have Hbk := Lib.hid hbk; clear hbk
          have Htr := Lib.hid (own_row Htp.out.own)
          have htc : ds.length ≤ tc ∧ tc ≤ 9223372036854775807 := by
            obtain ⟨_, _, e1, h1, h2, _⟩ := own_slice Htp.out.own
            simp at e1
            obtain ⟨_, rfl⟩ := e1
            exact ⟨h1, by simpa [maxLen] using h2⟩
          obtain ⟨htc1, htc2⟩ := htc
          have Hmade := Lib.hid (fun o' : Obj => made_any (alOf ds) NB ds.length (ofOf ds k) Hok.out (wr.alloc o') (.agg #[.int .i64 kd, .int .i64 md, .slice x xl xc]) _ tc htc1 htc2 (Ht.out.ext (Hb.out o')) (Htr.out.ext (Hb.out o')))
          cases hal : alOf ds k
          all_goals
            have t97 := ta_nv97 (alOf ds) NB k _ hal
            have t100 := ta_nv100 (alOf ds) NB k _ hal
            simp only [Bool.not_true, Bool.not_false, if_true, if_false, Bool.false_eq_true] at t97 t100
            rw [hal] at y0
            have Hal := Lib.hid hal; clear hal
            go_wp2_with (go_at_call 41; refine (Hmade.out _).mono ?_; rintro e w2 ⟨tv2, rfl, htv2, hb2⟩; obtain ⟨ty2, p2, rfl⟩ := htv2.form0; have hb3 := (Hb.out _).trans (hb2.mono (by simp)); have Hbk2 := Lib.hid (below_ext hb3 Hbk.out); have z2 := cell_of Hbk2.out 1; have z3 := free_of Hbk2.out 1; simp only [show ∀ a b : Value, (#[a, b] : Array Value)[1]? = some b from fun _ _ => rfl] at z2)
            have hnew := Htp.out.made hlt hb3 htv2.any
            have Hnew := Lib.hid hnew; clear hnew hb3 htv2 hb2
            go_roundw
            case rel => unfold R2; exact ⟨k + 1, by omega, by go_num, Hnew.out⟩
            case measure => simp [intOf]; omega
        · have hke : k = ds.length := by omega
          subst hke
          go_wp2_with fail
          have H3 : Hid (S3 ds NB OB w.heap.size w.heap.size (.pointer none) (.slice none 0 0) (.map none) w (.slice ta ds.length tc) (.slice none 0 0) 0 wr) :=
            ⟨Htp.out.own, World.ownsRow_nil _ _ _ _, Htp.out.env, Htp.out.chk, Htp.out.bel, Htp.out.siz⟩
          have H2g := Lib.hid Htp.out.ge
          clear Htp
          obtain ⟨w2, rfl⟩ : ∃ w2 : World, w2 = wr := ⟨_, rfl⟩
          go_loopw [2, 86] (R3 ds NB OB w (.slice ta ds.length tc)) (fun _ i _ => ds.length - (intOf i).toNat)
          case atStart => unfold R3; exact ⟨0, Nat.zero_le _, rfl, H3.out⟩
          case round =>
            obtain ⟨k, hk, rfl, h3⟩ := hrel
            clear H3
            have H3 := Lib.hid h3
            obtain ⟨va, vc, hvv, _, _, _⟩ := own_slice h3.val
            subst hvv
            clear h3
            by_cases hlt : k < ds.length
            · obtain ⟨tb, to, rfl, z0⟩ := own_row H3.out.own k (nv (alOf ds) NB k) (by rw [List.getElem?_map, List.getElem?_range hlt]; rfl)
              cases hal : alOf ds k
              all_goals
                have t100 := ta_nv100 (alOf ds) NB k _ hal
                simp only [Bool.not_true, Bool.not_false, if_true, if_false, Bool.false_eq_true] at t100
                have Hal := Lib.hid hal; clear hal
              case' false =>
                have hv0 := valid0 (C := w.heap.size) (k0 := .pointer none) (k1 := .slice none 0 0) (k2 := .map none) (OB := OB) Hds.out hN (Nat.le_refl w.heap.size) (NB := NB) H2g.out ds.length ds.length 0 (.mk 1 (k : Int) [])
                  (.mk 1 k [] (by omega) (by omega) (by simp) (fun _ => by omega) (by omega) (by simp)) (AT.zero ds _) (by omega) _ _ [] wr (.iface 100 (.pointer (some ⟨NB k, 0, none⟩))) (.slice none 0 0) (.slice none 0 0) (H3.out.pre (by omega)) (by simp)
                  (by have h := TyV.named (al := alOf ds) (NB := NB) (w := wr) (S := Any) (k : Int) []; simp only [nv, Int.toNat_natCast, Hal.out, Bool.false_eq_true, if_false] at h; exact h)
                rw [flatF_name ds ds.length (k : Int) [] (by simpa using Hal.out)] at hv0
                have Hv0 := Lib.hid hv0; clear hv0
                unfold VC at Hv0
                go_wp2_with (first
                  | (go_at_call 42; refine Hv0.out.mono ?_; rintro e w3 ⟨r, rfl, hq⟩; have Hq := Lib.hid hq; clear hq)
                  | (at_builtin; refine wpList_app1 _ rfl (.tmp 102) (.tmp 104) 25 rfl w.heap.size 4 _ 1 Try.underlying25 Try.info4 rfl _ k _ _ rfl rfl (Hq.out.2.tf.own H3.out.val (by decide)) rfl ?_ ?_ ?_ ?_))
              case' true =>
                go_wp2_with (at_builtin; refine wpList_app1 _ rfl (.tmp 102) (.tmp 104) 25 rfl w.heap.size 4 _ 1 Try.underlying25 Try.info4 rfl _ k _ _ rfl rfl H3.out.val rfl ?_ ?_ ?_ ?_)
              all_goals first
                | (unfold maxLen; omega; done)
                | (omega; done)
                | (exact H3.out.siz)
                | (have := H3.out.siz; have := Hq.out.2.tf.size; omega; done)
                | skip
              all_goals
                intro vv' w4 g1 g2 g3 g4
                obtain ⟨va', vc', hvv', _, _, _⟩ := own_slice g1
                subst hvv'
                first
                  | have hnew := H3.out.named Hal.out Hq.out g1 g2 g3
                  | have hnew := H3.out.alias Hal.out g1 g2 g3
                have Hnew := Lib.hid hnew; clear hnew g1 g2 g3 g4
                go_wp2_with fail
                go_roundw
                case rel => unfold R3; exact ⟨k + 1, by omega, by go_num, Hnew.out⟩
                case measure => simp [intOf]; omega
            · have hke : k = ds.length := by omega
              subst hke
              go_wp2_with fail
              have H4 : Hid (S4 ds NB OB w.heap.size w.heap.size (.pointer none) (.slice none 0 0) (.map none) w (.slice ta ds.length tc) (.slice va ds.length vc) (.slice none 0 0) 0 wr) :=
                ⟨H3.out.own, H3.out.val, World.ownsRow_nil _ _ _ _, H3.out.env, H3.out.chk, H3.out.bel, H3.out.siz, by simp [Value.ownBlock]⟩
              clear H3
              obtain ⟨w5, rfl⟩ : ∃ w5 : World, w5 = wr := ⟨_, rfl⟩
              go_loopw [3, 109] (R4 ds NB OB w (.slice ta ds.length tc) (.slice va ds.length vc)) (fun _ i _ => ds.length - (intOf i).toNat)
              case atStart => unfold R4; exact ⟨0, Nat.zero_le _, rfl, H4.out⟩
              case round =>
                obtain ⟨k, hk, rfl, h4⟩ := hrel
                clear H4
                have H4 := Lib.hid h4
                obtain ⟨ma, mc, hmv, _, _, _⟩ := own_slice h4.mar
                subst hmv
                clear h4
                by_cases hlt : k < ds.length
                · obtain ⟨tb, to, rfl, z0⟩ := own_row H4.out.own k (nv (alOf ds) NB k) (by rw [List.getElem?_map, List.getElem?_range hlt]; rfl)
                  have hmk : ∃ r : Bool, (!alOf ds k && (vt (alOf ds) (GG ds) ds.length ds.length).2.1 k) = r := ⟨_, rfl⟩
                  obtain ⟨r, hmk⟩ := hmk
                  have hmore := fun mv' w1 => H4.out.more (mv' := mv') (w1 := w1) hlt
                  rw [hmk] at hmore
                  have Hmore := Lib.hid hmore; clear hmore
                  have hcase : (alOf ds k = true ∧ r = false) ∨ (alOf ds k = false ∧ ∃ v, wr.cell? ⟨NB k, 1, none⟩ = some v ∧ ((∃ b, v = .iface 106 (.pointer (some ⟨b, 0, none⟩)) ∧ wr.cell? ⟨b, 0, none⟩ = some (.bool r)) ∨ (r = false ∧ NoTa v 106))) := by
                    cases hal : alOf ds k
                    · right
                      have := H4.out.env.basic Hds.out hlt hal
                      simp only [hal, Bool.not_false, Bool.true_and] at hmk
                      rw [hmk] at this
                      exact ⟨rfl, this⟩
                    · left
                      simp only [hal, Bool.not_true, Bool.false_and] at hmk
                      exact ⟨rfl, hmk.symm⟩
                  clear hmk
                  rcases hcase with ⟨hal, rfl⟩ | ⟨hal, v, y0, ⟨b', rfl, y1⟩ | ⟨rfl, y1⟩⟩
                  all_goals
                    have t100 := ta_nv100 (alOf ds) NB k _ hal
                    simp only [Bool.not_true, Bool.not_false, if_true, if_false, Bool.false_eq_true] at t100
                    have Hal := Lib.hid hal; clear hal
                    have t106 := ta_106_106
                    go_wp2_with (at_builtin; refine wpList_app1 _ rfl (.tmp 136) (.tmp 138) 25 rfl w.heap.size 4 _ 1 Try.underlying25 Try.info4 rfl _ k _ _ rfl rfl H4.out.mar rfl ?_ ?_ ?_ ?_)
                    · unfold maxLen; omega
                    · omega
                    · exact H4.out.siz
                    intro mv' w4 g1 g2 g3 g4
                    obtain ⟨ma', mc', hmv', _, _, _⟩ := own_slice g1
                    subst hmv'
                    have hnew := Hmore.out _ w4 (by rw [List.map_take]; exact g1) (by rw [List.map_take]; exact g2) g3 g4
                    have Hnew := Lib.hid hnew; clear hnew g1 g2 g3 g4
                    clear t100 t106
                    try clear y1
                    go_wp2_with fail
                    go_roundw
                    case rel => unfold R4; exact ⟨k + 1, by omega, by go_num, Hnew.out⟩
                    case measure => simp [intOf]; omega
                · have hke : k = ds.length := by omega
                  subst hke
                  obtain ⟨cyv, hC, hcy⟩ := H4.out.chk.ex
                  have c3 := cell_of hC 3
                  simp only [show ∀ a b c d : Value, (#[a, b, c, d] : Array Value)[3]? = some d from fun _ _ _ _ => rfl] at c3
                  clear hC
                  have Hcy := Lib.hid hcy; clear hcy
                  go_wp2_with fail
                  go_quiet (fail)
                  go_wp2_with fail
                  go_ret3
                  have hm := H4.out.mar
                  rw [List.take_of_length_le (by simp [vtMarked])] at hm
                  exact ⟨_, _, _, rfl, own_ext H4.out.val (below_refl_drewN _ _ _), own_ext hm (below_refl_drewN _ _ _), Hcy.out.ext (below_refl_drewN _ _ _), H4.out.bel.trans (below_refl_drewN _ _ _), H4.out.dis⟩

end Go.Proofs.Ytnaedpfaeioolaa
