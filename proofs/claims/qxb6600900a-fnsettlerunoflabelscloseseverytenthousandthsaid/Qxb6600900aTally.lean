import Derived.Test.Qxb6600900aTallyR
import Derived.Deep.DeepCutAuto
import Derived.Deep.Cut
import Derived.Deep.CutRange
namespace Go.Proofs.Qxb6600900a
open Go.RowKit
attribute [local go_sem] run_store_float

theorem Try.info4 : (Try.prog.info? 4).map (fun i => (i.zero, i.size, i.bytes)) = some (some (.bool false), 1, 1) := by kernel_rfl

theorem flags_start (w : World) (n : Nat) : Holds (w.alloc (.cells (madeCells #[.bool false] n) 4)) w.heap.size 0 n (fun _ => .bool false) := by
  have := holds_new w (madeCells #[.bool false] n) 4 (fun _ => .bool false) (by
    intro i hi
    have hi' : i < n := by simpa [madeCells] using hi
    simp [madeCells, hi', Nat.mod_one])
  have hs : (madeCells #[.bool false] n).size = n := by simp [madeCells]
  rw [hs] at this
  exact this

theorem ord_ne {a b : Nat} (ha : Fl.Fin a) (hb : Fl.Fin b) (h : Fl.V a = Fl.V b) : (FloatKind.f64.format.order a b != some .eq) = false := by
  rw [show FloatKind.f64.format.order a b = some (compare (Fl.V a) (Fl.V b)) from Fl.order_fin ha hb, h]
  simp

set_option maxRecDepth 100000 in
set_option maxHeartbeats 6400000 in
theorem tally_some (b off len cap act : Nat) (start : Int) (z : Nat → Int) (w : World) (h0 : 0 < len) (hl : len ≤ 65536) (ha1 : 1 ≤ act) (ha2 : act ≤ 65536) (hpr : (len : Int) * (act : Int) ≤ 16777216)
    (hc : ∀ i, i < len → w.cell? ⟨b, off + i, none⟩ = some (.int .u16 (z i))) (hz : ∀ i, i < len → 0 ≤ z i ∧ z i ≤ 65535) (hbw : b < w.heap.size) :
    Calls Try.prog 5 #[.int .u64 start, .int .i64 (act : Int), .slice (some ⟨b, off, none⟩) len cap] w fun e w' => e = .returned (.bool true) ∧ Below w.heap.size w w' := by
  obtain ⟨i4, hi4, hz0, hz1, hz2⟩ := info_parts Try.info4
  have hmk : ∀ w, (Instr.makeSlice 46 (.int .i64 (act : Int)) (.int .i64 (act : Int))).run Try.prog w = .ok (.slice (some ⟨w.heap.size, 0, none⟩) act act) (w.alloc (.cells (madeCells #[.bool false] act) 4)) := fun w => by
    have := run_make (P := Try.prog) w 46 4 i4 _ Try.underlying46 hi4 hz0 .i64 .i64 (act : Int) (act : Int) (by omega) (by omega) (by rw [hz2]; omega) (by omega)
    simpa [hz1, Value.cells] using this
  have hpr0 : (0 : Int) ≤ (len : Int) * (act : Int) := Int.mul_nonneg (Int.natCast_nonneg _) (Int.natCast_nonneg _)
  have HMK := hid hmk
  have HC := hid hc
  have HZ := hid hz
  clear hc hz hz0 hz1 hz2 hi4 hmk
  go_enter Try.func5, Try.ntmps5
  go_wp2_with (go_in)
  go_loopw [7] (fun i wr => ∃ k : Nat, k ≤ len ∧ i = .int .i64 k ∧ Hid (∀ q, q < k → z q ≤ act) ∧ Hid (wr = w)) (fun i _ => len - (intOf i).toNat)
  case atStart => exact ⟨0, Nat.zero_le _, rfl, fun q hq => absurd hq (Nat.not_lt_zero _), rfl⟩
  case round =>
    obtain ⟨k, hk, rfl, HA, HW⟩ := hrel
    have hw : w = wr := HW.out.symm
    clear HW
    subst hw
    by_cases hlt : k < len
    · have g0 := HC.out k hlt
      have hzk := HZ.out k hlt
      obtain ⟨zk, hzz⟩ : ∃ zk, zk = z k := ⟨_, rfl⟩
      rw [← hzz] at g0 hzk
      obtain ⟨hz1, hz2⟩ := hzk
      by_cases hgt : zk ≤ (act : Int)
      · have HA' : Hid (∀ q, q < k + 1 → z q ≤ act) := by
          intro q hq
          by_cases e : q < k
          · exact HA.out q e
          · obtain rfl : q = k := by omega
            rw [← hzz]; exact hgt
        clear hzz
        go_wp2
        go_roundw
        case rel => exact ⟨k + 1, by omega, rfl, HA', trivial⟩
        case measure => simp [intOf]; omega
      · clear hzz
        go_wp2
        go_ret
        exact ⟨rfl, Below.refl _ _⟩
    · have hkl : len = k := by omega
      subst hkl
      have hmk := HMK.out
      go_wp2_with (first | (go_at_call 13; refine (copyU_some b off len cap z w (by omega) HC.out hbw).mono ?_; rintro e w1 ⟨rfl, hH1, hB1⟩) | (go_at_call 14; refine (newT_any (act : Int) w1).mono ?_; rintro e w2 ⟨T, rfl, hT2, hB2, hH2⟩))
      clear hmk HMK HC
      have HST : Hid (ST w T w2.heap.size w.heap.size act len z start 0 0 0 0 0 0 (w2.alloc (.cells (madeCells #[.bool false] act) 4))) := by
        have hs1 := hB1.size
        have hA1 : w.heap.size < w1.heap.size := hH1.lt h0
        have hT3 : T < w2.heap.size := hH2.lt (by omega)
        have hs2 := hB2.size
        refine ⟨talF act, fun _ => false, ⟨fun _ => 0, fun _ => 0, fun _ => 0, fun _ => 0, fun _ => 0, fun _ => 0, fun _ => 0, fun _ => 0, fun _ => 0, fun _ => 0, fun _ _ => 0⟩, 0, 0, 0, 0, ⟨hH2.alloc _, flags_start w2 act, (hH1.below hB2 hA1).alloc _, (hB1.trans (hB2.mono hs1)).alloc (by omega) _, Nat.le_refl _, by omega, hT3, by simp⟩, ?_, open_start start, by simp, by omega, by omega, by omega, by omega⟩
        exact pt_start act _ (fun _ _ => rfl) (fun _ _ => rfl) (fun _ _ => rfl) (fun _ _ => rfl)
      have HZA : Hid (∀ q, q < len → z q ≤ act) := HA
      clear HA hH1 hB1 hT2 hB2 hH2 hlt hk
      obtain ⟨fb, hfb⟩ : ∃ fb, fb = w2.heap.size := ⟨_, rfl⟩
      obtain ⟨wI, hwI⟩ : ∃ wI, wI = w2.alloc (.cells (madeCells #[.bool false] act) 4) := ⟨_, rfl⟩
      rw [← hfb, ← hwI] at HST ⊢
      clear hfb hwI
      go_loopw [10, 11, 12, 13, 14, 15] (fun a b c d e v wr => ∃ (i : Nat) (tl ll op n : Int) (g : Nat), i ≤ len ∧ v = .int .i64 i ∧ a = .int .u64 tl ∧ b = .int .u64 ll ∧ c = .int .u64 op ∧ d = .int .i64 n ∧ e = .float .f64 g ∧ Hid (ST w T fb w.heap.size act len z start i tl ll op n g wr)) (fun _ _ _ _ _ v _ => len - (intOf v).toNat)
      case atStart => exact ⟨0, 0, 0, 0, 0, 0, by omega, rfl, rfl, rfl, rfl, rfl, rfl, HST⟩
      case round =>
        clear HST
        obtain ⟨i, tl, ll, op, n, g, hi, rfl, rfl, rfl, rfl, rfl, rfl, HST⟩ := hrel
        by_cases hlt : i < len
        · obtain ⟨F, f, o, s0, s1, l, R, hW, hP, hO, hop, htl, hll, hop0, hn⟩ := HST.out
          obtain ⟨zk, hzk⟩ : ∃ zk, zk = z i := ⟨_, rfl⟩
          have hzb := HZ.out i hlt
          have hza := HZA.out i hlt
          rw [← hzk] at hzb hza
          have hcz : wr.cell? ⟨w.heap.size, i, none⟩ = some (.int .u16 zk) := by
            have := hW.cp.cell i hlt
            rw [Nat.zero_add] at this
            rw [this, hzk]
          have HW := hid hW
          have HP := hid hP
          have HO := hid hO
          have HOP := hid hop
          have HTL := hid htl
          have HLL := hid hll
          have HN := hid hn
          have HZK := hid hzk
          obtain ⟨hzb0, hzb1⟩ := hzb
          clear hW hP hO hop htl hll hn hzk HST
          go_wp2
          obtain ⟨lab, hlab⟩ : ∃ lab, lab = labK start i := ⟨_, rfl⟩
          rw [show IntKind.u64.wrap (start + (i : Int)) = lab from hlab.symm]
          have hlb0 : 0 ≤ lab := by rw [hlab, labK_eq]; omega
          have hlb1 : lab < 18446744073709551616 := by rw [hlab, labK_eq]; omega
          have HLAB := hid hlab
          clear hlab hcz
          go_loopw [17] (fun v wq => ∃ j : Nat, j ≤ act ∧ v = .int .i64 j ∧ Hid (∃ f', WT w T fb w.heap.size act len z F f' wq ∧ ∀ t : Nat, t < j → f' t = decide (zk ≤ (t : Int)))) (fun v _ => act - (intOf v).toNat)
          case atStart => exact ⟨0, by omega, rfl, f, HW.out, fun t ht => absurd ht (Nat.not_lt_zero _)⟩
          case round =>
            clear HW
            obtain ⟨j, hj, rfl, HW⟩ := hrel
            obtain ⟨f', hW', hf'⟩ := HW.out
            have hcz := cz_of hW' hlt HZK.out
            by_cases hja : j < act
            · have hcf := hW'.fl.cell j hja
              have hvf := hW'.fl.free j hja
              rw [Nat.zero_add] at hcf hvf
              have HN' : Hid (∃ f', WT w T fb w.heap.size act len z F f' (wr.setCell ⟨fb, j, none⟩ (.bool (decide (zk ≤ (j : Int))))) ∧ ∀ t : Nat, t < j + 1 → f' t = decide (zk ≤ (t : Int))) := by
                refine ⟨_, hW'.flag j hja _, fun t ht => ?_⟩
                by_cases e : t = j
                · subst e; simp
                · simp only [e, if_false]; exact hf' t (by omega)
              clear hW' hf' HW
              go_wp2
              go_roundw
              case rel => exact ⟨j + 1, by omega, by go_num, HN'⟩
              case measure => simp [intOf]; omega
            · have hja' : j = act := by omega
              have hcnt : zk = ((cnt f' act : Nat) : Int) := by
                rw [cnt_ge f' zk.toNat act (fun t ht => by rw [hf' t (by omega)]; congr 1; exact propext (by omega))]
                omega
              have HCNT := hid hcnt
              have HW' := hid hW'
              have hR2 : op ≤ 1000000000 := by
                have h1 := HOP.out
                have h2 : (act * R : Nat) ≤ 65536 * 9999 := Nat.mul_le_mul ha2 HO.out.1
                have h3 : ((act * R : Nat) : Int) = (act : Int) * (R : Int) := by simp
                omega
              have htl1 : 0 ≤ tl := HTL.out.1
              have htl2 : tl ≤ 5000000000 := by have := HTL.out.2; omega
              have hll1 : 0 ≤ ll := HLL.out.1
              have hll2 : ll ≤ 65536 := by have := HLL.out.2; omega
              have hn1 : 0 ≤ n := HN.out.1
              have hn2 : n ≤ 65536 := by have := HN.out.2; omega
              clear hja' hcnt hW' hf' HW hj
              have HTL' : Hid (0 ≤ tl + zk ∧ tl + zk ≤ 65536 * ((i + 1 : Nat) : Int)) := by
                have h2 := HTL.out
                exact ⟨by omega, by omega⟩
              have hoz : op + zk ≤ 10000 * (act : Int) := by
                have h1 := HOP.out
                have h2 : (act * R : Nat) ≤ act * 9999 := Nat.mul_le_mul_left _ HO.out.1
                have h3 : ((act * R : Nat) : Int) = (act : Int) * (R : Int) := by simp
                omega
              obtain ⟨u, hqu, hu⟩ := share_fin (p := (op + zk).toNat) (q := 10000 * act) (by omega) (by omega) (by omega)
              rw [show (((op + zk).toNat : Nat) : Int) = op + zk by omega, show ((10000 * act : Nat) : Int) = 10000 * (act : Int) by omega] at hqu
              have HRQ := hid (fun w => run_float_arith (P := Try.prog) w .quo 22 .f64 (floatOfInt .f64 (op + zk)) (floatOfInt .f64 (10000 * (act : Int))) u hqu)
              have HQ := hid hqu
              have HU := hid hu
              clear hqu hu hoz
              go_upto_if 103 with (first | (go_at_call 15; refine (hold_of ha2 lab HW'.out).mono ?_; rintro e w3 ⟨rfl, lb, ab, hW3, hA3⟩) | (go_at_call 16; refine (settle_of ha2 (by omega) ⟨htl1, htl2⟩ ⟨hll1, hll2⟩ ⟨hop0, hR2⟩ ⟨hn1, hn2⟩ hW3 hA3 HP.out hlb0 hlb1 zk HCNT.out HQ.out HU.out).mono ?_; rintro e w4 ⟨F4, o4, s04, s14, l4, rfl, hW4, hPX⟩; have hcz4 := cz_of hW4 hlt HZK.out; have HPX := hid hPX; clear hPX))
              have HW4 := hid hW4
              clear hW4 hW3 hA3 HW'
              go_cut [11] (fun a wx => ∃ ll' : Int, a = .int .u64 ll' ∧ 0 ≤ ll' ∧ ll' ≤ 65537 ∧ Hid (ll' = if 0 < zk then ll + 1 else ll) ∧ Hid (wx = w4))
              case first =>
                by_cases hzp : 0 < zk
                · go_wp2
                  go_meet
                  exact ⟨ll + 1, rfl, by omega, by omega, by rw [if_pos hzp]; rfl, rfl⟩
                · go_wp2
                  go_meet
                  exact ⟨ll, rfl, by omega, by omega, by rw [if_neg (by omega)]; rfl, rfl⟩
              case rest =>
                obtain ⟨ll', rfl, hl1', hl2', HLL', HWX⟩ := hcut
                have hwx : w4 = wc := HWX.out.symm
                clear HWX
                subst hwx
                go_upto_if 118 with fail
                have HFG := hid HP.out.fg
                go_cut [12, 13, 14, 18, 19] (fun a b c _ _ wx => ∃ (op' n' : Int) (g' : Nat), a = .int .u64 op' ∧ b = .int .i64 n' ∧ c = .float .f64 g' ∧ Hid (NXT lab op zk n g u op' n' g') ∧ Hid (wx = w4))
                case first =>
                  have hrq := HRQ.out
                  cases hcl : (lab % 10000 == 0)
                  · have hcl' : lab % 10000 ≠ 0 := by simpa using hcl
                    go_wp2
                    go_meet
                    exact ⟨op + zk, n, g, rfl, rfl, rfl, .inl ⟨hcl', rfl, rfl, rfl⟩, rfl⟩
                  · have hcl' : lab % 10000 = 0 := by simpa using hcl
                    cases hgt : (FloatKind.f64.format.order u g == some .gt)
                    · have HNX : Hid (NXT lab op zk n g u 0 (n + 1) g) := .inr ⟨hcl', rfl, rfl, HFG.out, by have := ord_ngt HU.out.1 HFG.out hgt; omega⟩
                      go_wp2
                      go_meet
                      exact ⟨0, n + 1, g, rfl, rfl, rfl, HNX, rfl⟩
                    · have HNX : Hid (NXT lab op zk n g u 0 (n + 1) u) := .inr ⟨hcl', rfl, rfl, HU.out.1, by have := ord_gt HU.out.1 HFG.out hgt; omega⟩
                      go_wp2
                      go_meet
                      exact ⟨0, n + 1, u, rfl, rfl, rfl, HNX, rfl⟩
                case rest =>
                  obtain ⟨op', n', g', rfl, rfl, rfl, HNX, HWX⟩ := hcut
                  have hwx : w4 = wc := HWX.out.symm
                  clear HWX
                  subst hwx
                  have hP4 := HPX.out op' n' g' HNX.out
                  rw [← HLL'.out] at hP4
                  have hW4 := HW4.out
                  have HP4 := hid hP4
                  have HSTN : Hid (∀ w5, Below w4.heap.size w4 w5 → ∀ c, ST w T fb w.heap.size act len z start (i + 1) (tl + zk) ll' op' n' g' (w5.alloc (.cells c 45))) := by
                    intro w5 hB5 c
                    have hTL := HTL'.out
                    have hLL := HLL.out
                    have hLL' := HLL'.out
                    have hNN := HN.out
                    have hOP := HOP.out
                    have hW5 := (hW4.below hB5).below ((Below.refl _ _).alloc (Nat.le_refl _) (.cells c 45))
                    have hll' : 0 ≤ ll' ∧ ll' ≤ ((i + 1 : Nat) : Int) := by
                      rw [hLL']; split
                      · exact ⟨by omega, by omega⟩
                      · exact ⟨by omega, by omega⟩
                    rcases HNX.out with ⟨h1, rfl, rfl, rfl⟩ | ⟨h1, rfl, rfl, h2⟩
                    · have e : (act : Int) * ((R + 1 : Nat) : Int) = (act : Int) * (R : Int) + act := by rw [Int.natCast_add, Int.mul_add]; simp
                      exact ⟨F4, f', o4, s04, s14, l4, R + 1, hW5, hP4, open_next HO.out (by rw [← HLAB.out]; exact h1), by rw [e]; omega, hTL, hll', by omega, by omega, by omega⟩
                    · exact ⟨F4, f', o4, s04, s14, l4, 0, hW5, hP4, open_shut start i, by simp, hTL, hll', by omega, by omega, by omega⟩
                  clear hP4 hW4 HNX HPX HLL' HQ HU HRQ HFG HP HO HOP HTL HLL HN HTL' HCNT hcz4
                  go_wp2_with fail
                  refine (count_of HW4.out HP4.out).mono ?_
                  rintro e w5 ⟨rfl, hB5⟩
                  have HSTN' : Hid (∀ c, ST w T fb w.heap.size act len z start (i + 1) (tl + zk) ll' op' n' g' (w5.alloc (.cells c 45))) := HSTN.out w5 hB5
                  rw [show ((i + 1 : Nat) : Int) = (i : Int) + 1 by omega]
                  have q1 := ord_ne HP4.out.fl HP4.out.fg HP4.out.vg.symm
                  have q2 := ord_ge HP4.out.fl fin_zero.1 (by rw [fin_zero.2]; exact HP4.out.v0)
                  have q3 : (FloatKind.f64.format.order l4 4607182418800017408 == some .lt || FloatKind.f64.format.order l4 4607182418800017408 == some .eq) = true := ord_le HP4.out.fl fin_one.1 HP4.out.v1
                  clear HW4 HP4 hB5 HSTN
                  dsimp only
                  iterate 5 (first | go_step | go_skip | go_upon)
                  refine wp_store_new 45 (.tmp 20) (.tmp 132) rfl w5.heap.size rfl _ #[.int .u64 ((i : Int) + 1), .int .u64 (tl + zk), .int .u64 ll', .int .u64 op', .float .f64 (o4.cs 0), .float .f64 (o4.cs 1), .float .f64 (o4.es 0), .float .f64 (o4.es 1), .int .i64 n', .float .f64 (o4.ms 0), .float .f64 (o4.ms 1), .float .f64 (o4.ms 2), .float .f64 (o4.co 0), .float .f64 (o4.co 1), .float .f64 (o4.co 2), .float .f64 (o4.co 3), .float .f64 (o4.co 4), .float .f64 (o4.co 5), .float .f64 (o4.co 6), .float .f64 (o4.co 7), .float .f64 (o4.co 8), .int .i64 s04, .int .i64 s14, .float .f64 l4, .float .f64 0, .float .f64 0] rfl rfl (by kernel_rfl) rfl (by simp [Value.oneCell']) ?_
                  go_wp2
                  go_roundw
                  case rel => exact ⟨i + 1, tl + zk, ll', op', n', g', by omega, by go_num, rfl, rfl, rfl, rfl, rfl, HSTN'.out _⟩
                  case measure => simp [intOf]; omega
        · go_wp2
          go_ret
          exact ⟨rfl, by obtain ⟨F, f, o, s0, s1, l, R, hW, _⟩ := HST.out; exact hW.bel⟩

end Go.Proofs.Qxb6600900a
