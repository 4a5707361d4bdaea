/-
  The callees of 'FnSettleRunOfLabelsClosesEveryTenThousandth', over its invariant.
-/
import Derived.Test.Qxb6600900aTallyQ
namespace Go.Proofs.Qxb6600900a
open Go.RowKit

section
variable {w wr : World} {T fb A act len k : Nat} {z : Nat → Int} {F : Nat → Value} {f : Nat → Bool} {tl ll op n s0 s1 : Int} {g l : Nat} {o : Ops}

theorem cz_of (hW : WT w T fb A act len z F f wr) {i : Nat} (hi : i < len) {zk : Int} (hz : zk = z i) : wr.cell? ⟨A, i, none⟩ = some (.int .u16 zk) := by
  have := hW.cp.cell i hi
  rw [Nat.zero_add] at this
  rw [this, hz]

theorem count_of (hW : WT w T fb A act len z F f wr) (hP : PT act k tl ll op n g F o s0 s1 l) :
    Calls Try.prog 17 #[.pointer (some ⟨T, 0, none⟩)] wr fun e w' => e = .returned (.agg #[.int .u64 (k : Int), .int .u64 tl, .int .u64 ll, .int .u64 op, .float .f64 (o.cs 0), .float .f64 (o.cs 1), .float .f64 (o.es 0), .float .f64 (o.es 1), .int .i64 n, .float .f64 (o.ms 0), .float .f64 (o.ms 1), .float .f64 (o.ms 2), .float .f64 (o.co 0), .float .f64 (o.co 1), .float .f64 (o.co 2), .float .f64 (o.co 3), .float .f64 (o.co 4), .float .f64 (o.co 5), .float .f64 (o.co 6), .float .f64 (o.co 7), .float .f64 (o.co 8), .int .i64 s0, .int .i64 s1, .float .f64 l, .float .f64 0, .float .f64 0]) ∧ Below wr.heap.size wr w' := by
  have c13 := hW.tal.cell 13 (by omega)
  have c14 := hW.tal.cell 14 (by omega)
  have c15 := hW.tal.cell 15 (by omega)
  rw [Nat.zero_add] at c13 c14 c15
  rw [hP.f13] at c13
  rw [hP.f14] at c14
  rw [hP.f15] at c15
  have hr := range_of_in hP.bt (holds_sub (off := 20) hW.tal 23 (by omega)) 0 0 hP.f41 hP.f42
  exact count_any T k tl ll op n s0 s1 _ _ _ _ _ _ _ _ _ _ _ _ _ _ _ _ l 0 0 wr c13 c14 c15 hr (hW.tal.lt (by omega))

theorem hold_of (ha : act ≤ 65536) (label : Int) (hW : WT w T fb A act len z F f wr) :
    Calls Try.prog 15 #[.pointer (some ⟨T, 0, none⟩), .int .u64 label, .slice (some ⟨fb, 0, none⟩) act act] wr fun e w' => e = .returned (.tuple #[]) ∧ ∃ lb ab, WT w T fb A act len z (held F act label lb ab) f w' ∧ Holds w' ab 0 (act * 3) (actF f act) := by
  refine (hold_any T fb act label F f wr ha hW.tal hW.fl hW.g4).mono ?_
  rintro e w' ⟨rfl, lb, ab, h1, h2, h3, _⟩
  exact ⟨rfl, lb, ab, hW.kept h3 h1, h2⟩

theorem settle_of_open {lb ab : Nat} {label : Int} (ha : act ≤ 65536) (hk : k ≤ 65536) (htl : 0 ≤ tl ∧ tl ≤ 5000000000) (hll : 0 ≤ ll ∧ ll ≤ 65536) (hop : 0 ≤ op ∧ op ≤ 1000000000)
    (hW : WT w T fb A act len z (held F act label lb ab) f wr) (hA : Holds wr ab 0 (act * 3) (actF f act)) (hP : PT act k tl ll op n g F o s0 s1 l) (hl0 : 0 ≤ label) (hl1 : label < 18446744073709551616) (hne : label % 10000 ≠ 0) (c : Int) (hc : c = cnt f act) :
    Calls Try.prog 16 #[.pointer (some ⟨T, 0, none⟩), .int .u64 label] wr fun e w' => e = .returned (.bool false) ∧ ∃ F' o' s0' s1' l', WT w T fb A act len z F' f w' ∧ PT act (k + 1) (tl + c) (if 0 < c then ll + 1 else ll) (op + c) n g F' o' s0' s1' l' := by
  refine wrap16 T label false _ wr ((settle_open T lb ab act label k tl ll op (held F act label lb ab) f wr ha hW.tal hA rfl rfl rfl rfl rfl ?_ ?_ ?_ ?_ (by omega) (by omega) (by omega) (by omega) hne hl0 hl1).mono ?_)
  · rw [held_out _ _ _ _ _ _ (by omega)]; exact hP.f13
  · rw [held_out _ _ _ _ _ _ (by omega)]; exact hP.f14
  · rw [held_out _ _ _ _ _ _ (by omega)]; exact hP.f15
  · rw [held_out _ _ _ _ _ _ (by omega)]; exact hP.bt.c0
  · rintro e w' ⟨rfl, h1, h2⟩
    rw [← hc] at h1
    exact ⟨rfl, _, o, s0, s1, l, hW.kept h2 h1, hP.open label c lb ab⟩

theorem settle_of_close {lb ab u : Nat} {label : Int} (ha : act ≤ 65536) (hk : k ≤ 65536) (htl : 0 ≤ tl ∧ tl ≤ 5000000000) (hll : 0 ≤ ll ∧ ll ≤ 65536) (hop : 0 ≤ op ∧ op ≤ 1000000000) (hn : 0 ≤ n ∧ n ≤ 65536)
    (hW : WT w T fb A act len z (held F act label lb ab) f wr) (hA : Holds wr ab 0 (act * 3) (actF f act)) (hP : PT act k tl ll op n g F o s0 s1 l) (hl0 : 0 ≤ label) (hl1 : label < 18446744073709551616) (hne : label % 10000 = 0) (c : Int) (hc : c = cnt f act)
    (hq : floatBits .quo .f64 (floatOfInt .f64 (op + c)) (floatOfInt .f64 (10000 * (act : Int))) = some u) (hu : Fl.Fin u ∧ 0 ≤ Fl.V u ∧ Fl.V u ≤ Fl.V one) :
    Calls Try.prog 16 #[.pointer (some ⟨T, 0, none⟩), .int .u64 label] wr fun e w' => e = .returned (.bool true) ∧ ∃ F' o' s0' s1' l', WT w T fb A act len z F' f w' ∧
      ∀ g', (Fl.Fin g' ∧ Fl.V g' = max (Fl.V g) (Fl.V u)) → PT act (k + 1) (tl + c) (if 0 < c then ll + 1 else ll) 0 (n + 1) g' F' o' s0' s1' l' := by
  obtain ⟨nn, rfl⟩ : ∃ nn : Nat, n = nn := ⟨n.toNat, by omega⟩
  obtain ⟨L, fL, vL, hmax⟩ := max_val hP.fl hu.1
  have w0 : Fl.Fin 0 ∧ -(Fl.V 9094988921128908188) ≤ Fl.V 0 ∧ Fl.V 0 ≤ Fl.V 9094988921128908188 := by
    have : 0 ≤ Fl.V 9094988921128908188 := by decide +kernel
    rw [fin_zero.2]; exact ⟨fin_zero.1, by omega, by omega⟩
  obtain ⟨t, x, e1, e2, bx⟩ := Fl.dev_step w0 w0
  obtain ⟨o2, OIs, Ov, Og, _, _⟩ := ops_named (o.cs 0) (o.cs 1) (o.es 0) (o.es 1) (o.ms 0) (o.ms 1) (o.ms 2) (o.co 0) (o.co 1) (o.co 2) (o.co 3) (o.co 4) (o.co 5) (o.co 6) (o.co 7) (o.co 8) u t t x x nn (by omega)
    (by rw [hP.ocs 0 (by omega), hP.oes 0 (by omega)]; exact e1) (by rw [hP.ocs 1 (by omega), hP.oes 1 (by omega)]; exact e1) e2 e2 (bd_unit hu) bx bx ⟨hP.bms 0 (by omega), hP.bms 1 (by omega), hP.bms 2 (by omega)⟩ (fun h => ⟨hP.zms (by omega) 0 (by omega), hP.zms (by omega) 1 (by omega), hP.zms (by omega) 2 (by omega)⟩)
  have hIn : o2.In op nn s0 s1 l (fun t => held F act label lb ab (20 + t)) := In.congr (in_of_is hP.bt OIs) (fun t ht => held_out _ _ _ _ _ _ (by omega))
  refine wrap16 T label true _ wr ((settle_close o2 T lb ab act label k tl ll op nn s0 s1 l u L _ (held F act label lb ab) f wr ha hW.tal hA ?_ rfl rfl rfl rfl rfl ?_ ?_ ?_ ?_ (by omega) (by omega) (by omega) (by omega) hne hl0 hl1 hIn Ov OIs.hu (by omega) (by omega) rfl hmax (by rw [← hc]; exact hq)).mono ?_)
  · rw [held_out _ _ _ _ _ _ (by omega)]; exact hP.f0
  · rw [held_out _ _ _ _ _ _ (by omega)]; exact hP.f13
  · rw [held_out _ _ _ _ _ _ (by omega)]; exact hP.f14
  · rw [held_out _ _ _ _ _ _ (by omega)]; exact hP.f15
  · rw [held_out _ _ _ _ _ _ (by omega)]; exact hP.bt.c0
  · rintro e w' ⟨rfl, F', s0', s1', co', h1, h2, h3, h4, h5, h6⟩
    rw [← hc] at h3
    exact ⟨rfl, F', _, s0', s1', L, hW.kept h2 h1, fun g' hg' => hP.close label c lb ab h3 h4 h5 h6 (by omega) Og.bm hu ⟨fL, vL⟩ hg'⟩

/-- The open batch, the number of batches and the largest share behind a label. -/
def NXT (label op c n : Int) (g u : Nat) (op' n' : Int) (g' : Nat) : Prop :=
  (label % 10000 ≠ 0 ∧ op' = op + c ∧ n' = n ∧ g' = g) ∨ (label % 10000 = 0 ∧ op' = 0 ∧ n' = n + 1 ∧ Fl.Fin g' ∧ Fl.V g' = max (Fl.V g) (Fl.V u))

theorem settle_of {lb ab u : Nat} {label : Int} (ha : act ≤ 65536) (hk : k ≤ 65536) (htl : 0 ≤ tl ∧ tl ≤ 5000000000) (hll : 0 ≤ ll ∧ ll ≤ 65536) (hop : 0 ≤ op ∧ op ≤ 1000000000) (hn : 0 ≤ n ∧ n ≤ 65536)
    (hW : WT w T fb A act len z (held F act label lb ab) f wr) (hA : Holds wr ab 0 (act * 3) (actF f act)) (hP : PT act k tl ll op n g F o s0 s1 l) (hl0 : 0 ≤ label) (hl1 : label < 18446744073709551616) (c : Int) (hc : c = cnt f act)
    (hq : floatBits .quo .f64 (floatOfInt .f64 (op + c)) (floatOfInt .f64 (10000 * (act : Int))) = some u) (hu : Fl.Fin u ∧ 0 ≤ Fl.V u ∧ Fl.V u ≤ Fl.V one) :
    Calls Try.prog 16 #[.pointer (some ⟨T, 0, none⟩), .int .u64 label] wr fun e w' => ∃ F' o' s0' s1' l', e = .returned (.bool (label % 10000 == 0)) ∧ WT w T fb A act len z F' f w' ∧
      ∀ op' n' g', NXT label op c n g u op' n' g' → PT act (k + 1) (tl + c) (if 0 < c then ll + 1 else ll) op' n' g' F' o' s0' s1' l' := by
  by_cases h : label % 10000 = 0
  · refine (settle_of_close ha hk htl hll hop hn hW hA hP hl0 hl1 h c hc hq hu).mono ?_
    rintro e w' ⟨rfl, F', o', s0', s1', l', h1, h2⟩
    refine ⟨F', o', s0', s1', l', by rw [h]; rfl, h1, ?_⟩
    rintro op' n' g' (⟨h3, _⟩ | ⟨_, rfl, rfl, h4⟩)
    · exact absurd h h3
    · exact h2 g' h4
  · refine (settle_of_open ha hk htl hll hop hW hA hP hl0 hl1 h c hc).mono ?_
    rintro e w' ⟨rfl, F', o', s0', s1', l', h1, h2⟩
    refine ⟨F', o', s0', s1', l', by rw [show (label % 10000 == 0) = false by simpa using h], h1, ?_⟩
    rintro op' n' g' (⟨_, rfl, rfl, rfl⟩ | ⟨h3, _⟩)
    · exact h2
    · exact absurd h3 h

end
end Go.Proofs.Qxb6600900a
