/-
  '(*tally).settle' (function 24), of a ledger of one label.
-/
import Derived.Test.Qxb6600900aAt
import Derived.Deep.RegionWith
namespace Go.Proofs.Qxb6600900a
open Go.RowKit

/-- How many of the k first flags are down. -/
def cnt (f : Nat → Bool) : Nat → Nat
  | 0 => 0
  | k + 1 => cnt f k + if f k then 0 else 1

theorem cnt_le (f : Nat → Bool) : ∀ k, cnt f k ≤ k
  | 0 => Nat.le_refl _
  | k + 1 => by have := cnt_le f k; unfold cnt; split <;> omega

/-- The counters behind a label, ahead of the batch's close. -/
def setl (F : Nat → Value) (lab pr ll p c : Int) : Nat → Value :=
  upd (upd (upd (upd F 13 (.int .u64 (lab + 1))) 14 (.int .u64 (pr + c))) 15 (.int .u64 (if 0 < c then ll + 1 else ll))) 20 (.int .u64 (p + c))

theorem kept_of_below {w w' : World} (T off n : Nat) (h : Below w.heap.size w w') (hT : T < w.heap.size) : Kept T off n w w' :=
  ⟨h.os, h.tape, h.output, h.size, fun i hi _ => h.block i hi, fun i _ => h.cell (p := ⟨T, i, none⟩) hT, fun i => h.frozen (p := ⟨T, i, none⟩) hT⟩

theorem Kept.widen {b off n off' n' : Nat} {w w' : World} (h : Kept b off n w w') (h1 : off' ≤ off) (h2 : off + n ≤ off' + n') : Kept b off' n' w w' :=
  ⟨h.os, h.tape, h.output, h.size, h.block, fun i hi => h.cell i (by omega), h.froz⟩

theorem setl_pos {w wr : World} {T : Nat} {F : Nat → Value} {lab pr ll p c : Int} (h : Holds wr T 0 51 F) (hB : Below w.heap.size w wr) (hT : T < w.heap.size) (hc : 0 < c) :
    Holds ((((wr.setCell ⟨T, 13, none⟩ (.int .u64 (lab + 1))).setCell ⟨T, 14, none⟩ (.int .u64 (pr + c))).setCell ⟨T, 15, none⟩ (.int .u64 (ll + 1))).setCell ⟨T, 20, none⟩ (.int .u64 (p + c))) T 0 51 (setl F lab pr ll p c) ∧
    Kept T 0 51 w ((((wr.setCell ⟨T, 13, none⟩ (.int .u64 (lab + 1))).setCell ⟨T, 14, none⟩ (.int .u64 (pr + c))).setCell ⟨T, 15, none⟩ (.int .u64 (ll + 1))).setCell ⟨T, 20, none⟩ (.int .u64 (p + c))) := by
  have k := (((h.set 13 (by omega) (.int .u64 (lab + 1))).set 14 (by omega) (.int .u64 (pr + c))).set 15 (by omega) (.int .u64 (ll + 1))).set 20 (by omega) (.int .u64 (p + c))
  have q := ((((kept_of_below T 0 51 hB hT).set 13 (by omega) (.int .u64 (lab + 1))).set 14 (by omega) (.int .u64 (pr + c))).set 15 (by omega) (.int .u64 (ll + 1))).set 20 (by omega) (.int .u64 (p + c))
  simp only [Nat.zero_add] at k q
  refine ⟨?_, q⟩
  unfold setl
  rw [if_pos hc]
  exact k

theorem setl_zero {w wr : World} {T : Nat} {F : Nat → Value} {lab pr ll p c : Int} (h : Holds wr T 0 51 F) (hB : Below w.heap.size w wr) (hT : T < w.heap.size) (hc : ¬ 0 < c) (hF : F 15 = .int .u64 ll) :
    Holds (((wr.setCell ⟨T, 13, none⟩ (.int .u64 (lab + 1))).setCell ⟨T, 14, none⟩ (.int .u64 (pr + c))).setCell ⟨T, 20, none⟩ (.int .u64 (p + c))) T 0 51 (setl F lab pr ll p c) ∧
    Kept T 0 51 w (((wr.setCell ⟨T, 13, none⟩ (.int .u64 (lab + 1))).setCell ⟨T, 14, none⟩ (.int .u64 (pr + c))).setCell ⟨T, 20, none⟩ (.int .u64 (p + c))) := by
  have k := ((h.set 13 (by omega) (.int .u64 (lab + 1))).set 14 (by omega) (.int .u64 (pr + c))).set 20 (by omega) (.int .u64 (p + c))
  have q := (((kept_of_below T 0 51 hB hT).set 13 (by omega) (.int .u64 (lab + 1))).set 14 (by omega) (.int .u64 (pr + c))).set 20 (by omega) (.int .u64 (p + c))
  simp only [Nat.zero_add] at k q
  refine ⟨k.congr fun t _ => ?_, q⟩
  unfold setl
  rw [if_neg hc]
  unfold upd
  by_cases e : t = 15
  · subst e; simp [hF]
  · by_cases e2 : t = 20
    · simp [e2]
    · simp [e, e2]

theorem setl_out (F : Nat → Value) (lab pr ll p c : Int) (t : Nat) (h : t ≠ 13 ∧ t ≠ 14 ∧ t ≠ 15 ∧ t ≠ 20) : setl F lab pr ll p c t = F t := by
  unfold setl upd; simp [h.1, h.2.1, h.2.2.1, h.2.2.2]

theorem in_setl {o : Ops} {p n s0 s1 : Int} {l : Nat} {F : Nat → Value} (h : o.In p n s0 s1 l (fun t => F (20 + t))) (lab pr ll c : Int) : o.In (p + c) n s0 s1 l (fun t => setl F lab pr ll p c (20 + t)) where
  c0 := by simp [setl, upd]
  c1 := fun k hk => by show setl F lab pr ll p c _ = _; rw [setl_out F _ _ _ _ _ _ (by omega)]; exact h.c1 k hk
  c3 := fun k hk => by show setl F lab pr ll p c _ = _; rw [setl_out F _ _ _ _ _ _ (by omega)]; exact h.c3 k hk
  c5 := by show setl F lab pr ll p c _ = _; rw [setl_out F _ _ _ _ _ _ (by omega)]; exact h.c5
  c6 := fun k hk => by show setl F lab pr ll p c _ = _; rw [setl_out F _ _ _ _ _ _ (by omega)]; exact h.c6 k hk
  c9 := fun k hk => by show setl F lab pr ll p c _ = _; rw [setl_out F _ _ _ _ _ _ (by omega)]; exact h.c9 k hk
  c18 := by show setl F lab pr ll p c _ = _; rw [setl_out F _ _ _ _ _ _ (by omega)]; exact h.c18
  c19 := by show setl F lab pr ll p c _ = _; rw [setl_out F _ _ _ _ _ _ (by omega)]; exact h.c19
  c20 := by show setl F lab pr ll p c _ = _; rw [setl_out F _ _ _ _ _ _ (by omega)]; exact h.c20

/-- BEHIND A CLOSE inside a tally. -/
theorem closed_tally {o : Ops} {T : Nat} {n : Int} {L : Nat} {F : Nat → Value} {w wS w' : World} (hS : Holds wS T 0 51 F) (hK : Kept T 0 51 w wS) (hC : Closed o T 20 n L (fun t => F (20 + t)) wS w') :
    ∃ F' s0' s1' co', Holds w' T 0 51 F' ∧ Kept T 0 51 w w' ∧ (∀ t, t < 20 → F' t = F t) ∧ ({ o with cs := fun _ => 0, es := fun _ => 0, ms := o.mp, co := co' } : Ops).In 0 (n + 1) s0' s1' L (fun t => F' (20 + t)) ∧ F' 41 = F 41 ∧ F' 42 = F 42 := by
  obtain ⟨G, s0', s1', co', hG, hI, hr, hK', _⟩ := hC
  have e : (fun t => (fun t => if 20 ≤ t ∧ t < 43 then G (t - 20) else F t) (20 + t)) = fun t => if t < 23 then G t else F (20 + t) := by
    funext t
    by_cases c : t < 23
    · simp only [show 20 ≤ 20 + t ∧ 20 + t < 43 by omega, c, if_true, and_self]; rw [show 20 + t - 20 = t by omega]
    · simp only [show ¬ (20 ≤ 20 + t ∧ 20 + t < 43) by omega, c, if_false]
  refine ⟨fun t => if 20 ≤ t ∧ t < 43 then G (t - 20) else F t, s0', s1', co', ?_, hK.trans (hK'.widen (by omega) (by omega)), ?_, ?_, ?_, ?_⟩
  · intro t ht
    rw [Nat.zero_add]
    by_cases c : 20 ≤ t ∧ t < 43
    · simp only [c, if_true, and_self]
      have := hG (t - 20) (by omega)
      rwa [show 20 + (t - 20) = t by omega] at this
    · simp only [c, if_false]
      have := hS t ht
      rw [Nat.zero_add] at this
      exact ⟨by rw [hK'.cell t (by omega)]; exact this.1, by rw [hK'.froz t]; exact this.2⟩
  · intro t ht
    simp only [show ¬ (20 ≤ t ∧ t < 43) by omega, if_false]
  · rw [e]
    exact ⟨by simpa using hI.c0, fun k hk => by simp only [show 1 + k < 23 by omega, if_true]; exact hI.c1 k hk, fun k hk => by simp only [show 3 + k < 23 by omega, if_true]; exact hI.c3 k hk, by simpa using hI.c5, fun k hk => by simp only [show 6 + k < 23 by omega, if_true]; exact hI.c6 k hk,
      fun k hk => by simp only [show 9 + k < 23 by omega, if_true]; exact hI.c9 k hk, by simpa using hI.c18, by simpa using hI.c19, by simpa using hI.c20⟩
  · simpa using hr.1
  · simpa using hr.2

set_option maxRecDepth 100000 in
set_option maxHeartbeats 1600000 in
theorem settle_open (T lb ab act : Nat) (label lab pr ll p : Int) (F : Nat → Value) (f : Nat → Bool) (w : World) (ha : act ≤ 65536) (hT : Holds w T 0 51 F) (hA : Holds w ab 0 (act * 3) (actF f act))
    (f1 : F 1 = .int .i64 act) (f2 : F 2 = .int .u64 label) (f3 : F 3 = .int .i64 0) (f5 : F 5 = .slice (some ⟨lb, 0, none⟩) 1 1) (f6 : F 6 = .slice (some ⟨ab, 0, none⟩) act act)
    (f13 : F 13 = .int .u64 lab) (f14 : F 14 = .int .u64 pr) (f15 : F 15 = .int .u64 ll) (f20 : F 20 = .int .u64 p)
    (b13 : 0 ≤ lab ∧ lab ≤ 1000000) (b14 : 0 ≤ pr ∧ pr ≤ 1000000000000) (b15 : 0 ≤ ll ∧ ll ≤ 1000000) (b20 : 0 ≤ p ∧ p ≤ 1000000000000)
    (hlab : label % 10000 ≠ 0) (hl0 : 0 ≤ label) (hl1 : label < 18446744073709551616) :
    Calls Try.prog 24 #[.pointer (some ⟨T, 0, none⟩), .int .u64 label] w fun e w' => e = .returned (.bool false) ∧ Holds w' T 0 51 (setl F lab pr ll p (cnt f act)) ∧ Kept T 0 51 w w' := by
  have c1 := hT.cell 1 (by omega)
  have c2 := hT.cell 2 (by omega)
  have c3 := hT.cell 3 (by omega)
  have c5 := hT.cell 5 (by omega)
  have c6 := hT.cell 6 (by omega)
  rw [Nat.zero_add] at c1 c2 c3 c5 c6
  rw [f1] at c1
  rw [f2] at c2
  rw [f3] at c3
  rw [f5] at c5
  rw [f6] at c6
  have HAT := hid (at_any T lb ab act label w ha c1 c2 c3 c5 c6)
  have HT := hid hT
  have HA := hid hA
  have F13 := hid f13
  have F14 := hid f14
  have F15 := hid f15
  have F20 := hid f20
  clear hT hA c1 c2 c3 c5 c6 f1 f2 f3 f5 f6 f13 f14 f15 f20
  go_enter Try.func24, Try.ntmps24
  go_wp2_with (go_at_call 26; refine HAT.out.mono ?_; rintro e w1 ⟨rfl, n1, rfl⟩)
  clear HAT
  go_loopw [7, 20] (fun c i wr => ∃ (k : Nat) (cc : Int), k ≤ act ∧ i = .int .i64 k ∧ c = .int .u64 cc ∧ 0 ≤ cc ∧ cc ≤ k ∧ Hid (cc = cnt f k) ∧ Hid (Below w.heap.size w wr)) (fun _ i _ => act - (intOf i).toNat)
  case atStart => exact ⟨0, 0, Nat.zero_le _, rfl, rfl, by omega, by omega, rfl, below_drewN (Below.refl _ _) _⟩
  case round =>
    obtain ⟨k, cc, hk, rfl, rfl, hc0, hck, HC, HB⟩ := hrel
    by_cases hlt : k < act
    · have hA' := HA.out.below HB.out (HA.out.lt (by omega))
      have a0 := hA'.cell (k * 3) (by omega)
      have a1 := hA'.cell (k * 3 + 1) (by omega)
      have a2 := hA'.cell (k * 3 + 2) (by omega)
      rw [Nat.zero_add] at a0 a1 a2
      rw [show actF f act (k * 3) = .int .u64 0 by unfold actF; rw [if_pos (by omega)]] at a0
      rw [show actF f act (k * 3 + 1) = .bool false by unfold actF; rw [if_neg (by omega), if_pos (by omega)]] at a1
      rw [show actF f act (k * 3 + 2) = .bool (f k) by unfold actF; rw [if_neg (by omega), if_neg (by omega), if_pos (by omega), show (k * 3 + 2) / 3 = k by omega]] at a2
      clear hA'
      have HB' : Hid (Below w.heap.size w (wr.alloc (.cells #[.int .u64 0, .bool false, .bool (f k)] 76))) := HB.out.alloc HB.out.size _
      cases hfk : f k
      · rw [hfk] at a2 HB'
        have HC' : Hid (cc + 1 = cnt f (k + 1)) := by
          have := HC.out
          show cc + 1 = ((cnt f (k + 1) : Nat) : Int)
          unfold cnt; rw [hfk]; simp; omega
        go_wp2
        go_roundw
        case rel => exact ⟨k + 1, cc + 1, by omega, rfl, by go_num, by omega, by omega, HC', HB'⟩
        case measure => simp [intOf]; omega
      · rw [hfk] at a2 HB'
        have HC' : Hid (cc = cnt f (k + 1)) := by
          have := HC.out
          show cc = ((cnt f (k + 1) : Nat) : Int)
          unfold cnt; rw [hfk]; simp; omega
        go_wp2
        go_roundw
        case rel => exact ⟨k + 1, cc, by omega, rfl, rfl, by omega, by omega, HC', HB'⟩
        case measure => simp [intOf]; omega
    · have hka : k = act := by omega
      have HC' : Hid (cc = cnt f act) := by rw [← hka]; exact HC
      have hca : cc ≤ 65536 := by omega
      clear HC hck hka
      have hT' := HT.out.below HB.out (HT.out.lt (by omega))
      have d13 := hT'.cell 13 (by omega)
      have d14 := hT'.cell 14 (by omega)
      have d15 := hT'.cell 15 (by omega)
      have d20 := hT'.cell 20 (by omega)
      have z13 := hT'.free 13 (by omega)
      have z14 := hT'.free 14 (by omega)
      have z15 := hT'.free 15 (by omega)
      have z20 := hT'.free 20 (by omega)
      rw [Nat.zero_add] at d13 d14 d15 d20 z13 z14 z15 z20
      rw [F13.out] at d13
      rw [F14.out] at d14
      rw [F15.out] at d15
      rw [F20.out] at d20
      have HT' := hid hT'
      clear hT'
      have hTw := HT.out.lt (by omega)
      by_cases hcp : 0 < cc
      · have HN := hid (setl_pos (lab := lab) (pr := pr) (ll := ll) (p := p) HT'.out HB.out hTw hcp)
        go_wp2
        go_ret
        rw [← HC'.out]
        exact ⟨rfl, HN.out⟩
      · have HN := hid (setl_zero (lab := lab) (pr := pr) (ll := ll) (p := p) HT'.out HB.out hTw hcp F15.out)
        go_wp2
        go_ret
        rw [← HC'.out]
        exact ⟨rfl, HN.out⟩

set_option maxRecDepth 100000 in
set_option maxHeartbeats 1600000 in
theorem settle_close (o : Ops) (T lb ab act : Nat) (label lab pr ll p n s0 s1 : Int) (l u L nf : Nat) (F : Nat → Value) (f : Nat → Bool) (w : World) (ha : act ≤ 65536) (hT : Holds w T 0 51 F) (hA : Holds w ab 0 (act * 3) (actF f act))
    (f0 : F 0 = .int .i64 act) (f1 : F 1 = .int .i64 act) (f2 : F 2 = .int .u64 label) (f3 : F 3 = .int .i64 0) (f5 : F 5 = .slice (some ⟨lb, 0, none⟩) 1 1) (f6 : F 6 = .slice (some ⟨ab, 0, none⟩) act act)
    (f13 : F 13 = .int .u64 lab) (f14 : F 14 = .int .u64 pr) (f15 : F 15 = .int .u64 ll) (f20 : F 20 = .int .u64 p)
    (b13 : 0 ≤ lab ∧ lab ≤ 1000000) (b14 : 0 ≤ pr ∧ pr ≤ 1000000000000) (b15 : 0 ≤ ll ∧ ll ≤ 1000000) (b20 : 0 ≤ p ∧ p ≤ 1000000000000)
    (hlab : label % 10000 = 0) (hl0 : 0 ≤ label) (hl1 : label < 18446744073709551616)
    (hF : o.In p n s0 s1 l (fun t => F (20 + t))) (hV : o.Valid nf) (hu : o.xs 0 = u) (hn0 : 0 ≤ n) (hn1 : n ≤ 1000000) (hnf : floatOfInt .f64 (n + 1) = nf)
    (hmax : ∀ w, (Builtin.max_ #[22, 22] 22 #[.float .f64 l, .float .f64 u]).run Try.prog w = .ok (.float .f64 L) w)
    (hq : floatBits .quo .f64 (floatOfInt .f64 (p + cnt f act)) (floatOfInt .f64 (10000 * (act : Int))) = some u) :
    Calls Try.prog 24 #[.pointer (some ⟨T, 0, none⟩), .int .u64 label] w fun e w' => e = .returned (.bool true) ∧
      ∃ F' s0' s1' co', Holds w' T 0 51 F' ∧ Kept T 0 51 w w' ∧ (∀ t, t < 20 → F' t = setl F lab pr ll p (cnt f act) t) ∧ ({ o with cs := fun _ => 0, es := fun _ => 0, ms := o.mp, co := co' } : Ops).In 0 (n + 1) s0' s1' L (fun t => F' (20 + t)) ∧ F' 41 = F 41 ∧ F' 42 = F 42 := by
  have c1 := hT.cell 1 (by omega)
  have c2 := hT.cell 2 (by omega)
  have c3 := hT.cell 3 (by omega)
  have c5 := hT.cell 5 (by omega)
  have c6 := hT.cell 6 (by omega)
  rw [Nat.zero_add] at c1 c2 c3 c5 c6
  rw [f1] at c1
  rw [f2] at c2
  rw [f3] at c3
  rw [f5] at c5
  rw [f6] at c6
  have HAT := hid (at_any T lb ab act label w ha c1 c2 c3 c5 c6)
  have HT := hid hT
  have HA := hid hA
  have F13 := hid f13
  have F0 := hid f0
  have HF := hid hF
  have HV := hid hV
  have HU := hid hu
  have HNF := hid hnf
  have HMX := hid hmax
  have HQ := hid hq
  clear f0 hF hV hu hnf hmax hq
  have F14 := hid f14
  have F15 := hid f15
  have F20 := hid f20
  clear hT hA c1 c2 c3 c5 c6 f1 f2 f3 f5 f6 f13 f14 f15 f20
  go_enter Try.func24, Try.ntmps24
  go_wp2_with (go_at_call 26; refine HAT.out.mono ?_; rintro e w1 ⟨rfl, n1, rfl⟩)
  clear HAT
  go_loopw [7, 20] (fun c i wr => ∃ (k : Nat) (cc : Int), k ≤ act ∧ i = .int .i64 k ∧ c = .int .u64 cc ∧ 0 ≤ cc ∧ cc ≤ k ∧ Hid (cc = cnt f k) ∧ Hid (Below w.heap.size w wr)) (fun _ i _ => act - (intOf i).toNat)
  case atStart => exact ⟨0, 0, Nat.zero_le _, rfl, rfl, by omega, by omega, rfl, below_drewN (Below.refl _ _) _⟩
  case round =>
    obtain ⟨k, cc, hk, rfl, rfl, hc0, hck, HC, HB⟩ := hrel
    by_cases hlt : k < act
    · have hA' := HA.out.below HB.out (HA.out.lt (by omega))
      have a0 := hA'.cell (k * 3) (by omega)
      have a1 := hA'.cell (k * 3 + 1) (by omega)
      have a2 := hA'.cell (k * 3 + 2) (by omega)
      rw [Nat.zero_add] at a0 a1 a2
      rw [show actF f act (k * 3) = .int .u64 0 by unfold actF; rw [if_pos (by omega)]] at a0
      rw [show actF f act (k * 3 + 1) = .bool false by unfold actF; rw [if_neg (by omega), if_pos (by omega)]] at a1
      rw [show actF f act (k * 3 + 2) = .bool (f k) by unfold actF; rw [if_neg (by omega), if_neg (by omega), if_pos (by omega), show (k * 3 + 2) / 3 = k by omega]] at a2
      clear hA'
      have HB' : Hid (Below w.heap.size w (wr.alloc (.cells #[.int .u64 0, .bool false, .bool (f k)] 76))) := HB.out.alloc HB.out.size _
      cases hfk : f k
      · rw [hfk] at a2 HB'
        have HC' : Hid (cc + 1 = cnt f (k + 1)) := by
          have := HC.out
          show cc + 1 = ((cnt f (k + 1) : Nat) : Int)
          unfold cnt; rw [hfk]; simp; omega
        go_wp2
        go_roundw
        case rel => exact ⟨k + 1, cc + 1, by omega, rfl, by go_num, by omega, by omega, HC', HB'⟩
        case measure => simp [intOf]; omega
      · rw [hfk] at a2 HB'
        have HC' : Hid (cc = cnt f (k + 1)) := by
          have := HC.out
          show cc = ((cnt f (k + 1) : Nat) : Int)
          unfold cnt; rw [hfk]; simp; omega
        go_wp2
        go_roundw
        case rel => exact ⟨k + 1, cc, by omega, rfl, rfl, by omega, by omega, HC', HB'⟩
        case measure => simp [intOf]; omega
    · have hka : k = act := by omega
      have HC' : Hid (cc = cnt f act) := by rw [← hka]; exact HC
      have hca : cc ≤ 65536 := by omega
      clear HC hck hka
      have hT' := HT.out.below HB.out (HT.out.lt (by omega))
      have d13 := hT'.cell 13 (by omega)
      have d14 := hT'.cell 14 (by omega)
      have d15 := hT'.cell 15 (by omega)
      have d20 := hT'.cell 20 (by omega)
      have z13 := hT'.free 13 (by omega)
      have z14 := hT'.free 14 (by omega)
      have z15 := hT'.free 15 (by omega)
      have z20 := hT'.free 20 (by omega)
      rw [Nat.zero_add] at d13 d14 d15 d20 z13 z14 z15 z20
      rw [F13.out] at d13
      rw [F14.out] at d14
      rw [F15.out] at d15
      rw [F20.out] at d20
      have HT' := hid hT'
      clear hT'
      have hTw := HT.out.lt (by omega)
      have d0 := HT'.out.cell 0 (by omega)
      rw [Nat.zero_add, F0.out] at d0
      have hq := HQ.out
      rw [← HC'.out] at hq
      have hrq := fun w => run_float_arith (P := Try.prog) w .quo 22 .f64 (floatOfInt .f64 (p + cc)) (floatOfInt .f64 (IntKind.i64.wrap (10000 * (act : Int)))) u (by rw [show IntKind.i64.wrap (10000 * (act : Int)) = 10000 * (act : Int) by rw [IntKind.wrap_i64]; omega]; exact hq)
      have i3 : (0 : Int) ≤ (act : Int) := by omega
      have i4 : (act : Int) ≤ 65536 := by omega
      clear hq HQ HA
      by_cases hcp : 0 < cc
      · have HN := hid (setl_pos (lab := lab) (pr := pr) (ll := ll) (p := p) HT'.out HB.out hTw hcp)
        go_wp2_with fail
        obtain ⟨wS, hwS⟩ : ∃ wS, wS = ((((wr.setCell ⟨T, 13, none⟩ (.int .u64 (lab + 1))).setCell ⟨T, 14, none⟩ (.int .u64 (pr + cc))).setCell ⟨T, 15, none⟩ (.int .u64 (ll + 1))).setCell ⟨T, 20, none⟩ (.int .u64 (p + cc))) := ⟨_, rfl⟩
        rw [← hwS] at HN ⊢
        clear hwS d0 d13 d14 d15 d20 z13 z14 z15 z20
        have e0 := HN.out.1.cell 0 (by omega)
        have e20 := HN.out.1.cell 20 (by omega)
        rw [Nat.zero_add] at e0 e20
        rw [setl_out F _ _ _ _ _ _ (by omega), F0.out] at e0
        rw [show setl F lab pr ll p cc 20 = .int .u64 (p + cc) by simp [setl, upd]] at e20
        have HH20 := hid (holds_sub (off := 20) HN.out.1.drew 23 (by omega))
        have HIN := hid (in_setl HF.out lab pr ll cc)
        go_region_with (go_at_call 22; refine (close_any o T 20 (p + cc) n s0 s1 l u L nf (fun t => setl F lab pr ll p cc (20 + t)) _ HIN.out HV.out HH20.out HU.out hn0 hn1 HNF.out HMX.out).mono ?_; rintro e w' ⟨rfl, hcl⟩)
        all_goals
          go_wp2
          go_ret
          obtain ⟨F', s0', s1', co', k1, k2, k3, k4, k5, k6⟩ := closed_tally HN.out.1.drew HN.out.2.drew hcl
          rw [← HC'.out]
          exact ⟨rfl, F', s0', s1', co', k1, k2, k3, k4, k5.trans (setl_out F _ _ _ _ _ _ (by omega)), k6.trans (setl_out F _ _ _ _ _ _ (by omega))⟩
      · have HN := hid (setl_zero (lab := lab) (pr := pr) (ll := ll) (p := p) HT'.out HB.out hTw hcp F15.out)
        go_wp2_with fail
        obtain ⟨wS, hwS⟩ : ∃ wS, wS = (((wr.setCell ⟨T, 13, none⟩ (.int .u64 (lab + 1))).setCell ⟨T, 14, none⟩ (.int .u64 (pr + cc))).setCell ⟨T, 20, none⟩ (.int .u64 (p + cc))) := ⟨_, rfl⟩
        rw [← hwS] at HN ⊢
        clear hwS d0 d13 d14 d15 d20 z13 z14 z15 z20
        have e0 := HN.out.1.cell 0 (by omega)
        have e20 := HN.out.1.cell 20 (by omega)
        rw [Nat.zero_add] at e0 e20
        rw [setl_out F _ _ _ _ _ _ (by omega), F0.out] at e0
        rw [show setl F lab pr ll p cc 20 = .int .u64 (p + cc) by simp [setl, upd]] at e20
        have HH20 := hid (holds_sub (off := 20) HN.out.1.drew 23 (by omega))
        have HIN := hid (in_setl HF.out lab pr ll cc)
        go_region_with (go_at_call 22; refine (close_any o T 20 (p + cc) n s0 s1 l u L nf (fun t => setl F lab pr ll p cc (20 + t)) _ HIN.out HV.out HH20.out HU.out hn0 hn1 HNF.out HMX.out).mono ?_; rintro e w' ⟨rfl, hcl⟩)
        all_goals
          go_wp2
          go_ret
          obtain ⟨F', s0', s1', co', k1, k2, k3, k4, k5, k6⟩ := closed_tally HN.out.1.drew HN.out.2.drew hcl
          rw [← HC'.out]
          exact ⟨rfl, F', s0', s1', co', k1, k2, k3, k4, k5.trans (setl_out F _ _ _ _ _ _ (by omega)), k6.trans (setl_out F _ _ _ _ _ _ (by omega))⟩

end Go.Proofs.Qxb6600900a
