/- The walks of validType0 at a name: one that is not in its own nest, and one that is. -/
import Derived.Test.YtnaedpfaeioolaaWv
namespace Go.Proofs.Ytnaedpfaeioolaa
open Go.RowKit
set_option linter.unusedVariables false

theorem Try.info100 : (Try.prog.info? 100).map (fun i => (i.zero, i.size, i.bytes)) = some (some (.pointer none), 1, 8) := by kernel_rfl

/-- At place j a pointer lies, of which '== Z' says r. -/
def PtrAt (a : Option Addr) (Z : Nat) (W : World) (j : Nat) (r : Bool) : Prop :=
  ∃ g o p, a = some ⟨g, o, none⟩ ∧ W.cell? ⟨g, o + j, none⟩ = some (.pointer (some p)) ∧ (binOp .eql 100 (.pointer (some p)) (.pointer (some ⟨Z, 0, none⟩))).run Try.prog W = .ok (.bool r) W

set_option maxHeartbeats 1000000 in
set_option maxRecDepth 100000 in
theorem v0_new (C base : Nat) (w : World) (k : Nat) (v t0 p0 : Value) (Z n nc n2 pc : Nat) (na pa : Option Addr) (xs ys : List Value) (hch : Ch w k v (.iface 100 (.pointer (some ⟨Z, 0, none⟩)))) (hZ : w.heap[Z]? = some (.cells #[p0, t0] 101 (0, 0)))
    (hn : n ≤ nc) (hc : nc ≤ 9223372036854775807) (hn2 : n2 ≤ pc) (hc2 : pc ≤ 9223372036854775807) (hn3 : n ≤ 1000) (hn4 : n2 ≤ 1000) (Q : Bool → World → Prop) (hbase : base ≤ w.heap.size)
    (hne : ∀ j, j < n → PtrAt na Z w j false)
    (hown : w.ownsRow base 100 1 (.slice na n nc) n xs) (hown2 : w.ownsRow base 100 1 (.slice pa n2 pc) n2 ys)
    (hdis : ∀ b, (Value.slice na n nc).ownBlock = some b → (Value.slice pa n2 pc).ownBlock ≠ some b)
    (hrec : ∀ w1 w2 nest' path', w1.ownsRow base 100 1 nest' (n + 1) (xs ++ [pv Z]) → w1.ownsRow base 100 1 (.slice na n nc) n xs → w.grownBy w1 (Value.slice na n nc).ownBlock →
      (∀ k, nest'.ownBlock = some k → (Value.slice na n nc).ownBlock = some k ∨ w.heap.size ≤ k) →
      w1.ownsRow base 100 1 (.slice pa n2 pc) n2 ys →
      w2.ownsRow base 100 1 path' (n2 + 1) (ys ++ [pv Z]) → w2.ownsRow base 100 1 (.slice pa n2 pc) n2 ys → w1.grownBy w2 (Value.slice pa n2 pc).ownBlock →
      (∀ k, path'.ownBlock = some k → (Value.slice pa n2 pc).ownBlock = some k ∨ w1.heap.size ≤ k) → VC C w2 t0 nest' path' Q) :
    VC C w v (.slice na n nc) (.slice pa n2 pc) Q := by
  unfold VC at *
  have Hch := Lib.hid hch; clear hch
  have HZ := Lib.hid hZ; clear hZ
  have Hne := Lib.hid hne; clear hne
  have Hown := Lib.hid hown; clear hown
  have Hown2 := Lib.hid hown2; clear hown2
  have Hdis := Lib.hid hdis; clear hdis
  have Hrec := Lib.hid hrec; clear hrec
  have t117 := ta_100_117
  have t120 := ta_100_120
  have t130 := ta_100_130
  have t127 := ta_100_127
  have t100 := ta_100_100
  go_enter Try.func42, Try.ntmps42
  go_wp2_with (go_at_call 45; refine (unalias_ch _ k v _ Hch.out).mono ?_; rintro e w' ⟨rfl, rfl⟩)
  clear t117 t120 t130 t127 t100
  go_loopw [112] (fun i wr => ∃ k : Nat, k ≤ n ∧ i = .int .i64 k ∧ wr = w) (fun i _ => n - (intOf i).toNat)
  case atStart => exact ⟨0, by simp⟩
  case round =>
    obtain ⟨k, hk, rfl, rfl⟩ := hrel
    by_cases hlt : k < n
    · obtain ⟨g, o, p, rfl, x0, hq⟩ := Hne.out k hlt
      go_wp2_with fail
      clear hq
      go_roundw
      case rel => exact ⟨k + 1, by omega, by go_num, trivial⟩
      case measure => simp [intOf]; omega
    · have hke : k = n := by omega
      subst hke
      go_wp2_with (first
        | (go_at_call 49; refine (rhs_any _ _ _ _ HZ.out).mono ?_; rintro e w' ⟨rfl, rfl⟩)
        | (at_builtin; refine wpList_app1 _ rfl (.tmp 146) (.tmp 148) 136 rfl base 100 _ 8 Try.underlying136 Try.info100 rfl _ k _ _ rfl rfl Hown.out rfl ?_ ?_ ?_ ?_))
      · unfold maxLen; omega
      · omega
      · exact hbase
      intro nest' w1 g1 g2 g3 g4
      have hs1 := g3.size
      have p1 : w1.ownsRow base 100 1 (.slice pa n2 pc) n2 ys := by
        refine Hown2.out.kept g3 ?_
        cases h : (Value.slice pa n2 pc).ownBlock with
        | none => exact Or.inl rfl
        | some b => exact Or.inr fun e => Hdis.out b e.symm h
      have P1 := Lib.hid p1; clear p1
      have G1 := Lib.hid g1; clear g1
      have G2 := Lib.hid g2; clear g2
      have G3 := Lib.hid g3; clear g3
      have G4 := Lib.hid g4; clear g4
      go_wp2_with (at_builtin; refine wpList_app1 _ rfl (.tmp 150) (.tmp 152) 136 rfl base 100 _ 8 Try.underlying136 Try.info100 rfl _ n2 _ _ rfl rfl P1.out rfl ?_ ?_ ?_ ?_)
      · unfold maxLen; omega
      · omega
      · omega
      intro path' w2 g5 g6 g7 g8
      have Hcall := Lib.hid (Hrec.out w1 w2 nest' path' G1.out G2.out G3.out G4.out P1.out g5 g6 g7 g8)
      clear g5 g6 g7 g8
      go_wp2_with fail
      go_at_call 42
      refine Hcall.out.mono ?_
      rintro e w' ⟨r, rfl, hq⟩
      have Hq := Lib.hid hq; clear hq
      cases r
      all_goals
        go_wp2_with fail
        go_ret
      · exact ⟨false, rfl, Hq.out⟩
      · exact ⟨true, rfl, Hq.out⟩

set_option maxHeartbeats 1000000 in
set_option maxRecDepth 100000 in
theorem v0_found (C : Nat) (w : World) (k : Nat) (v t0 p0 : Value) (Z n nc n2 pc g o : Nat) (na : Option Addr) (ix : Nat) (hch : Ch w k v (.iface 100 (.pointer (some ⟨Z, 0, none⟩)))) (hZ : w.heap[Z]? = some (.cells #[p0, t0] 101 (0, 0)))
    (hn : n ≤ nc) (hc : nc ≤ 9223372036854775807) (hn2 : n2 ≤ pc) (hc2 : pc ≤ 9223372036854775807) (hi1 : ix < n) (hi2 : ix < n2) (Q : Bool → World → Prop)
    (hne : ∀ j, j < ix → PtrAt na Z w j false) (heq : PtrAt na Z w ix true)
    (hne2 : ∀ j, j < ix → PtrAt (some ⟨g, o, none⟩) Z ((w.alloc (.cells #[.bool true] 109)).setCell ⟨Z, 1, none⟩ (.iface 106 (.pointer (some ⟨w.heap.size, 0, none⟩)))) j false)
    (heq2 : PtrAt (some ⟨g, o, none⟩) Z ((w.alloc (.cells #[.bool true] 109)).setCell ⟨Z, 1, none⟩ (.iface 106 (.pointer (some ⟨w.heap.size, 0, none⟩)))) ix true)
    (hrec : Calls Try.prog 48 #[.slice (some ⟨g, o + ix, none⟩) (n2 - ix) (pc - ix)] ((w.alloc (.cells #[.bool true] 109)).setCell ⟨Z, 1, none⟩ (.iface 106 (.pointer (some ⟨w.heap.size, 0, none⟩)))) fun e w2 =>
      ∃ ov, e = .returned ov ∧ Calls Try.prog 47 #[.pointer (some ⟨C, 0, none⟩), ov, .int .i64 0] w2 fun e w3 => e = .returned (.tuple #[]) ∧ Q false w3) :
    VC C w v (.slice na n nc) (.slice (some ⟨g, o, none⟩) n2 pc) Q := by
  unfold VC
  have Hch := Lib.hid hch; clear hch
  have Hne := Lib.hid hne; clear hne
  have Heq := Lib.hid heq; clear heq
  have Hne2 := Lib.hid hne2; clear hne2
  have Heq2 := Lib.hid heq2; clear heq2
  have Hrec := Lib.hid hrec; clear hrec
  have HZ := Lib.hid hZ; clear hZ
  have t117 := ta_100_117
  have t120 := ta_100_120
  have t130 := ta_100_130
  have t127 := ta_100_127
  have t100 := ta_100_100
  go_enter Try.func42, Try.ntmps42
  go_wp2_with (go_at_call 45; refine (unalias_ch _ k v _ Hch.out).mono ?_; rintro e w' ⟨rfl, rfl⟩)
  clear t117 t120 t130 t127 t100
  go_loopw [112] (fun i wr => ∃ k : Nat, k ≤ ix ∧ i = .int .i64 k ∧ wr = w) (fun i _ => n - (intOf i).toNat)
  case atStart => exact ⟨0, by simp⟩
  case round =>
    obtain ⟨k, hk, rfl, rfl⟩ := hrel
    have hkn : k < n := by omega
    by_cases hlt : k < ix
    · obtain ⟨g', o', p, rfl, x0, hq⟩ := Hne.out k hlt
      go_wp2_with fail
      clear hq
      go_roundw
      case rel => exact ⟨k + 1, by omega, by go_num, trivial⟩
      case measure => simp [intOf]; omega
    · have hke : k = ix := by omega
      subst hke
      obtain ⟨g', o', p, rfl, x0, hq⟩ := Heq.out
      have z1 := cell_of (below_ext ((Below.refl wr.heap.size wr).alloc (Nat.le_refl _) (.cells #[.bool true] 109)) HZ.out) 1
      have z2 := free_of (below_ext ((Below.refl wr.heap.size wr).alloc (Nat.le_refl _) (.cells #[.bool true] 109)) HZ.out) 1
      simp only [show (#[p0, t0] : Array Value)[1]? = some t0 from rfl] at z1
      go_wp2_with (go_at_call 46; refine (invalid_any _).mono ?_; rintro e w' ⟨rfl, rfl⟩)
      clear z1 z2 x0 hq
      obtain ⟨W1, hW1⟩ : ∃ W1, W1 = (wr.alloc (.cells #[.bool true] 109)).setCell ⟨Z, 1, none⟩ (.iface 106 (.pointer (some ⟨wr.heap.size, 0, none⟩))) := ⟨_, rfl⟩
      rw [← hW1] at Hne2 Heq2 Hrec ⊢
      clear hW1
      go_loopw [125] (fun i wr => ∃ k' : Nat, k' ≤ k ∧ i = .int .i64 k' ∧ wr = W1) (fun i _ => n2 - (intOf i).toNat)
      case atStart => exact ⟨0, by simp⟩
      case round =>
        obtain ⟨k', hk', rfl, rfl⟩ := hrel
        have hkn' : k' < n2 := by omega
        by_cases hlt' : k' < k
        · obtain ⟨g2, o2, p2, e2, x2, hq2⟩ := Hne2.out k' hlt'
          simp at e2
          obtain ⟨rfl, rfl⟩ := e2
          go_wp2_with fail
          clear hq2
          go_roundw
          case rel => exact ⟨k' + 1, by omega, by go_num, trivial⟩
          case measure => simp [intOf]; omega
        · have hke : k' = k := by omega
          subst hke
          obtain ⟨g2, o2, p2, e2, x2, hq2⟩ := Heq2.out
          simp at e2
          obtain ⟨rfl, rfl⟩ := e2
          have hcap : k' < pc := by omega
          go_wp2_with (first
            | (go_at_call 48; refine Hrec.out.mono ?_; rintro e w2 ⟨ov, rfl, hov⟩; have Hov := Lib.hid hov; clear hov)
            | (go_at_call 47; refine Hov.out.mono ?_; rintro e w3 ⟨rfl, hq3⟩))
          go_ret
          exact ⟨false, rfl, hq3⟩

end Go.Proofs.Ytnaedpfaeioolaa
