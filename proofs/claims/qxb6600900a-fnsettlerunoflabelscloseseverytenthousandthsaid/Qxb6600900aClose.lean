import Derived.Test.Qxb6600900aInv
import Derived.BigRegion
namespace Go.Proofs.Qxb6600900a
open Go.RowKit
attribute [local go_sem] run_store_float

set_option maxHeartbeats 1600000 in
theorem close_any (o : Ops) (b off : Nat) (p n s0 s1 : Int) (l u L nf : Nat) (F : Nat → Value) (w : World)
    (hF : o.In p n s0 s1 l F) (hV : o.Valid nf) (hH : Holds w b off 23 F) (hu : o.xs 0 = u) (hn0 : 0 ≤ n) (hn1 : n ≤ 1000000) (hnf : floatOfInt .f64 (n + 1) = nf)
    (hmax : ∀ w, (Builtin.max_ #[22, 22] 22 #[.float .f64 l, .float .f64 u]).run Try.prog w = .ok (.float .f64 L) w) :
    Calls Try.prog 22 #[.pointer (some ⟨b, off, none⟩), .float .f64 u] w fun e w' => e = .returned (.tuple #[]) ∧ Closed o b off n L F w w' := by
  have hc20 : w.cell? ⟨b, off + 20, none⟩ = some (.float .f64 l) := by rw [hH.cell 20 (by omega), hF.c20]
  have hf20 : w.frozen? ⟨b, off + 20, none⟩ = false := hH.free 20 (by omega)
  have HF := hid hF
  have HV := hid hV
  have HH := hid hH
  clear hF hV hH
  go_enter Try.func22, Try.ntmps22
  go_wp2
  have hbw : b < w.heap.size := HH.out.lt (by omega)
  have HI1 : Hid (Inv1 o b off p n L F w 0 ((w.setCell ⟨b, off + 20, none⟩ (.float .f64 L)).alloc (.cells #[.float .f64 u, .float .f64 0, .float .f64 0] 24))) := inv1_start HF.out HH.out hu
  clear hc20 hf20 hmax
  have hne : ¬ b = w.heap.size := by omega
  have hne' : ¬ w.heap.size = b := by omega
  have hnf' : ¬ b = w.heap.size + 1 := by omega
  have hnf'' : ¬ w.heap.size + 1 = b := by omega
  go_loopw [21] (fun i wr => ∃ k : Nat, k ≤ 2 ∧ i = .int .i64 k ∧ Hid (Inv1 o b off p n L F w k wr)) (fun i _ => 2 - (intOf i).toNat)
  case atStart => exact ⟨0, Nat.zero_le _, rfl, HI1⟩
  case round =>
    clear HI1
    obtain ⟨k, hk, rfl, HI⟩ := hrel
    by_cases hlt : k < 2
    · obtain ⟨F', s0', s1', hH', hI', hr', hX', hK', hz'⟩ := HI.out
      obtain ⟨c, hc⟩ : ∃ c, c = o.cs k := ⟨_, rfl⟩
      obtain ⟨e, he⟩ : ∃ e, e = o.es k := ⟨_, rfl⟩
      obtain ⟨t, ht⟩ : ∃ t, t = o.ts k := ⟨_, rfl⟩
      obtain ⟨x, hx⟩ : ∃ x, x = o.xs (1 + k) := ⟨_, rfl⟩
      have hc1 : wr.cell? ⟨b, off + 1 + k, none⟩ = some (.float .f64 c) := by rw [Nat.add_assoc, hH'.cell (1 + k) (by omega), hI'.c1 k hlt, hc]
      have hc3 : wr.cell? ⟨b, off + 3 + k, none⟩ = some (.float .f64 e) := by rw [Nat.add_assoc, hH'.cell (3 + k) (by omega), hI'.c3 k hlt, he]
      have hsub : ∀ w, (binOp .sub 22 (.float .f64 c) (.float .f64 e)).run Try.prog w = .ok (.float .f64 t) w := fun w => run_float_arith w .sub 22 .f64 c e t (by rw [hc, he, ht]; exact HV.out.hT k hlt)
      have hquo : ∀ w, (binOp .quo 22 (.float .f64 t) (.float .f64 4666723172467343360)).run Try.prog w = .ok (.float .f64 x) w := fun w => run_float_arith w .quo 22 .f64 t _ x (by rw [ht, hx]; exact HV.out.hX k hlt)
      have hxc := hX'.cell (1 + k) (by omega)
      have hxf := hX'.free (1 + k) (by omega)
      rw [Nat.zero_add] at hxc hxf
      rw [if_neg (by omega)] at hxc
      have i1 : (0 : Int) ≤ (k : Int) := by omega
      have i2 : (k : Int) < 2 := by omega
      have i3 : IntKind.i64.wrap (1 + (k : Int)) = 1 + (k : Int) := by rw [IntKind.wrap_i64]; omega
      have i4 : (0 : Int) ≤ 1 + (k : Int) := by omega
      have i5 : 1 + (k : Int) < 3 := by omega
      have i6 : (1 + (k : Int)).toNat = 1 + k := by omega
      have HI2 : Hid (Inv1 o b off p n L F w (k + 1) (wr.setCell ⟨w.heap.size, 1 + k, none⟩ (.float .f64 x)).drew) := inv1_step hbw HI.out hlt hx
      have HCC := hid hc
      clear hH' hI' hr' hX' hK' hc he ht hx HI hz'
      go_wp2
      go_region_held3 (fun w' => w'.cell? ⟨b, off + 1 + k, none⟩ = some (.float .f64 c) ∧ w'.cell? ⟨b, off + 3 + k, none⟩ = some (.float .f64 e)) (go_keep) (fail)
      obtain ⟨w2, hw2⟩ : ∃ w2, w2 = (wr.setCell ⟨w.heap.size, 1 + k, none⟩ (.float .f64 x)).drew := ⟨_, rfl⟩
      rw [← hw2] at HI2 ⊢
      clear hw2 hc1 hc3 hsub hquo hxc hxf
      obtain ⟨F2, s02, s12, hH2, hI2, hr2, hX2, hK2, hz2⟩ := HI2.out
      obtain ⟨s, hs⟩ := hI2.seen k hlt
      have hc1' : w2.cell? ⟨b, off + 1 + k, none⟩ = some (.float .f64 c) := by rw [Nat.add_assoc, hH2.cell (1 + k) (by omega), hI2.c1 k hlt, HCC.out]
      have hcs : w2.cell? ⟨b, off + 18 + k, none⟩ = some (.int .i64 s) := by rw [Nat.add_assoc, hH2.cell (18 + k) (by omega), hs]
      have hfs : w2.frozen? ⟨b, off + 18 + k, none⟩ = false := by rw [Nat.add_assoc]; exact hH2.free (18 + k) (by omega)
      clear hH2 hI2 hr2 hX2 hK2 hz2 hs HCC
      by_cases hgt : (FloatKind.f64.format.order c 0 == some .gt) = true
      · go_wp2
        go_region
        all_goals
          go_wp2
          go_roundw
          case rel => exact ⟨k + 1, by omega, by go_num, inv1_seen hbw HI2.out k hlt _⟩
          case measure => simp [intOf]; omega
      · have hgt' : (FloatKind.f64.format.order c 0 == some .gt) = false := by simpa using hgt
        clear hgt
        go_wp2
        go_roundw
        case rel => exact ⟨k + 1, by omega, by go_num, HI2.out⟩
        case measure => simp [intOf]; omega
    · have hk2 : k = 2 := by omega
      rw [hk2] at HI
      clear hk2
      obtain ⟨k1, rfl⟩ : ∃ k1, k1 = k := ⟨_, rfl⟩
      have HJ : Hid (Inv2 o b off p n L F w 0 ((wr.setCell ⟨b, off + 5, none⟩ (.int .i64 (n + 1))).alloc (.cells #[.float .f64 0, .float .f64 0, .float .f64 0] 24))) := inv2_start hbw HI.out
      obtain ⟨F', s0', s1', hH', hI', hr', hX', hK', hz'⟩ := HI.out
      have hc5 : wr.cell? ⟨b, off + 5, none⟩ = some (.int .i64 n) := by rw [hH'.cell 5 (by omega), hI'.c5]
      have hf5 : wr.frozen? ⟨b, off + 5, none⟩ = false := hH'.free 5 (by omega)
      clear hH' hI' hr' hX' hK' HI
      have hz2 : wr.heap.size = w.heap.size + 1 := hz'.symm
      clear hz'
      go_wp2
      clear hc5 hf5 hz2
      go_loopw [66] (fun i wr => ∃ k : Nat, k ≤ 3 ∧ i = .int .i64 k ∧ Hid (Inv2 o b off p n L F w k wr)) (fun i _ => 3 - (intOf i).toNat)
      case atStart => exact ⟨0, Nat.zero_le _, rfl, HJ⟩
      case round =>
        clear HJ
        obtain ⟨k, hk, rfl, HI⟩ := hrel
        by_cases hlt : k < 3
        · obtain ⟨F', s0', s1', hH', hI', hr', hX', hD', hK'⟩ := HI.out
          obtain ⟨x, hx⟩ : ∃ x, x = o.xs k := ⟨_, rfl⟩
          obtain ⟨m, hm⟩ : ∃ m, m = o.ms k := ⟨_, rfl⟩
          obtain ⟨d, hd⟩ : ∃ d, d = o.ds k := ⟨_, rfl⟩
          obtain ⟨q, hq⟩ : ∃ q, q = o.qs k := ⟨_, rfl⟩
          obtain ⟨m', hm'⟩ : ∃ m', m' = o.mp k := ⟨_, rfl⟩
          have hcx : wr.cell? ⟨w.heap.size, k, none⟩ = some (.float .f64 x) := by have := hX'.cell k hlt; rw [Nat.zero_add] at this; rw [this, hx]
          have hcm : wr.cell? ⟨b, off + 6 + k, none⟩ = some (.float .f64 m) := by rw [Nat.add_assoc, hH'.cell (6 + k) (by omega), hI'.c6 k hlt, hm]; simp
          have hcd := hD'.cell k hlt
          have hfd := hD'.free k hlt
          rw [Nat.zero_add] at hcd hfd
          rw [if_neg (by omega)] at hcd
          have hc5 : wr.cell? ⟨b, off + 5, none⟩ = some (.int .i64 (n + 1)) := by rw [hH'.cell 5 (by omega), hI'.c5]
          have hfm : wr.frozen? ⟨b, off + 6 + k, none⟩ = false := by rw [Nat.add_assoc]; exact hH'.free (6 + k) (by omega)
          have hsub : ∀ w, (binOp .sub 22 (.float .f64 x) (.float .f64 m)).run Try.prog w = .ok (.float .f64 d) w := fun w => run_float_arith w .sub 22 .f64 x m d (by rw [hx, hm, hd]; exact HV.out.hD k hlt)
          have hquo : ∀ w, (binOp .quo 22 (.float .f64 d) (.float .f64 nf)).run Try.prog w = .ok (.float .f64 q) w := fun w => run_float_arith w .quo 22 .f64 d nf q (by rw [hd, hq]; exact HV.out.hQ k hlt)
          have hadd : ∀ w, (binOp .add 22 (.float .f64 m) (.float .f64 q)).run Try.prog w = .ok (.float .f64 m') w := fun w => run_float_arith w .add 22 .f64 m q m' (by rw [hm, hq, hm']; exact HV.out.hM k hlt)
          have i1 : (0 : Int) ≤ (k : Int) := by omega
          have i2 : (k : Int) < 3 := by omega
          have HI2 : Hid (Inv2 o b off p n L F w (k + 1) ((wr.setCell ⟨w.heap.size + 1, k, none⟩ (.float .f64 d)).drew.setCell ⟨b, off + 6 + k, none⟩ (.float .f64 m')).drew) := inv2_step hbw HI.out hlt hd hm'
          have hD2 : ((wr.setCell ⟨w.heap.size + 1, k, none⟩ (.float .f64 d)).drew).cell? ⟨w.heap.size + 1, k, none⟩ = some (.float .f64 d) := World.cell?_setCell_same _ _ _ hcd
          have hM2 : ((wr.setCell ⟨w.heap.size + 1, k, none⟩ (.float .f64 d)).drew).cell? ⟨b, off + 6 + k, none⟩ = some (.float .f64 m) := (World.cell?_setCell_other _ _ _ _ (by intro h; exact hnf'' (congrArg Addr.block h))).trans hcm
          have hN2 : ((wr.setCell ⟨w.heap.size + 1, k, none⟩ (.float .f64 d)).drew).cell? ⟨b, off + 5, none⟩ = some (.int .i64 (n + 1)) := (World.cell?_setCell_other _ _ _ _ (by intro h; exact hnf'' (congrArg Addr.block h))).trans hc5
          have hF2 : ((wr.setCell ⟨w.heap.size + 1, k, none⟩ (.float .f64 d)).drew).frozen? ⟨b, off + 6 + k, none⟩ = false := (World.frozen?_setCell ..).trans hfm
          have HD2 := hid hD2
          have HM2 := hid hM2
          have HN2 := hid hN2
          have HF2 := hid hF2
          clear hH' hI' hr' hX' hD' hK' hx hm hd hq hm' HI hc5 hfm hD2 hM2 hN2 hF2
          go_wp2
          go_region_held3 (fun w' => w'.cell? ⟨w.heap.size, k, none⟩ = some (.float .f64 x) ∧ w'.cell? ⟨b, off + 6 + k, none⟩ = some (.float .f64 m)) (go_keep) (fail)
          obtain ⟨w2, hw2⟩ : ∃ w2, w2 = (wr.setCell ⟨w.heap.size + 1, k, none⟩ (.float .f64 d)).drew := ⟨_, rfl⟩
          rw [← hw2] at HI2 HD2 HM2 HN2 HF2 ⊢
          have hD2 := HD2.out
          have hM2 := HM2.out
          have hN2 := HN2.out
          have hF2 := HF2.out
          clear hw2 hcx hcm hcd hfd hsub HD2 HM2 HN2 HF2
          go_wp2
          go_region
          all_goals
            go_wp2
            go_roundw
            case rel => exact ⟨k + 1, by omega, by go_num, HI2⟩
            case measure => simp [intOf]; omega
        · have hk3 : k = 3 := by omega
          rw [hk3] at HI
          clear hk3
          obtain ⟨k2, rfl⟩ : ∃ k2, k2 = k := ⟨_, rfl⟩
          have HJ := hid (inv3_start HI.out)
          clear HI
          go_wp2
          go_loopw [101] (fun i wr => ∃ k : Nat, k ≤ 3 ∧ i = .int .i64 k ∧ Hid (Inv3 o b off p n L F w (k * 3) wr)) (fun i _ => 3 - (intOf i).toNat)
          case atStart => exact ⟨0, Nat.zero_le _, rfl, HJ⟩
          case round =>
            clear HJ
            obtain ⟨k, hk, rfl, HI⟩ := hrel
            by_cases hlt : k < 3
            · have i1 : (0 : Int) ≤ (k : Int) := by omega
              have i2 : (k : Int) < 3 := by omega
              go_wp2
              obtain ⟨wo, rfl⟩ : ∃ wo : World, wo = wr := ⟨_, rfl⟩
              go_loopw [104] (fun j wr => ∃ m : Nat, m ≤ 3 ∧ j = .int .i64 m ∧ Hid (Inv3 o b off p n L F w (k * 3 + m) wr)) (fun j _ => 3 - (intOf j).toNat)
              case atStart => exact ⟨0, Nat.zero_le _, rfl, HI⟩
              case round =>
                clear HI
                obtain ⟨m, hm, rfl, HI⟩ := hrel
                by_cases hltm : m < 3
                · obtain ⟨F', s0', s1', co', hH', hI', hr', hX', hD', hK', hP', hQ'⟩ := HI.out
                  obtain ⟨c, hc⟩ : ∃ c, c = o.co (k * 3 + m) := ⟨_, rfl⟩
                  obtain ⟨d, hd⟩ : ∃ d, d = o.ds k := ⟨_, rfl⟩
                  obtain ⟨x, hx⟩ : ∃ x, x = o.xs m := ⟨_, rfl⟩
                  obtain ⟨mm, hmm⟩ : ∃ mm, mm = o.mp m := ⟨_, rfl⟩
                  obtain ⟨g, hg⟩ : ∃ g, g = o.gs m := ⟨_, rfl⟩
                  obtain ⟨pr, hpr⟩ : ∃ pr, pr = o.ps k m := ⟨_, rfl⟩
                  have hcc : wr.cell? ⟨b, off + 9 + k * 3 + m, none⟩ = some (.float .f64 c) := by
                    rw [show off + 9 + k * 3 + m = off + (9 + (k * 3 + m)) by omega, hH'.cell _ (by omega), hI'.c9 _ (by omega), hc]
                    show some (Value.float .f64 (co' (k * 3 + m))) = _
                    rw [hQ' _ (Nat.le_refl _)]
                  have hfc : wr.frozen? ⟨b, off + 9 + k * 3 + m, none⟩ = false := by
                    rw [show off + 9 + k * 3 + m = off + (9 + (k * 3 + m)) by omega]; exact hH'.free _ (by omega)
                  have hcm : wr.cell? ⟨b, off + 6 + m, none⟩ = some (.float .f64 mm) := by rw [Nat.add_assoc, hH'.cell (6 + m) (by omega), hI'.c6 m hltm, hmm]
                  have hcd : wr.cell? ⟨w.heap.size + 1, k, none⟩ = some (.float .f64 d) := by have := hD'.cell k hlt; rw [Nat.zero_add] at this; rw [this, hd]
                  have hcx : wr.cell? ⟨w.heap.size, m, none⟩ = some (.float .f64 x) := by have := hX'.cell m hltm; rw [Nat.zero_add] at this; rw [this, hx]
                  have hsub : ∀ w, (binOp .sub 22 (.float .f64 x) (.float .f64 mm)).run Try.prog w = .ok (.float .f64 g) w := fun w => run_float_arith w .sub 22 .f64 x mm g (by rw [hx, hmm, hg]; exact HV.out.hG m hltm)
                  have hmul : ∀ w, (binOp .mul 22 (.float .f64 d) (.float .f64 g)).run Try.prog w = .ok (.float .f64 pr) w := fun w => run_float_arith w .mul 22 .f64 d g pr (by rw [hd, hg, hpr]; exact HV.out.hP k m hlt hltm)
                  have i3 : (0 : Int) ≤ (m : Int) := by omega
                  have i4 : (m : Int) < 3 := by omega
                  have STEP : Hid (∀ z, (∀ r, floatBits .add .f64 c pr = some r → z = r) → Inv3 o b off p n L F w (k * 3 + m + 1) (wr.setCell ⟨b, off + 9 + k * 3 + m, none⟩ (.float .f64 z))) := by
                    intro z hz
                    exact inv3_step hbw HI.out hlt hltm (by rw [← hc, ← hpr]; exact hz)
                  clear hH' hI' hr' hX' hD' hK' hP' hQ' hc hd hx hmm hg hpr HI
                  cases hadd : floatBits .add .f64 c pr with
                  | some r =>
                    have hrun : ∀ w, (binOp .add 22 (.float .f64 c) (.float .f64 pr)).run Try.prog w = .ok (.float .f64 r) w := fun w => run_float_arith w .add 22 .f64 c pr r hadd
                    have HST : Hid (Inv3 o b off p n L F w (k * 3 + m + 1) (wr.setCell ⟨b, off + 9 + k * 3 + m, none⟩ (.float .f64 r))) := STEP.out r (fun r' h => by rw [hadd] at h; exact Option.some.inj h)
                    clear STEP hadd
                    go_wp2
                    go_region
                    all_goals
                      go_wp2
                      go_roundw
                      case rel => exact ⟨m + 1, by omega, by go_num, inv3_drew HST.out⟩
                      case measure => simp [intOf]; omega
                  | none =>
                    obtain ⟨nv, hrun⟩ := run_float_nan Try.prog 22 c pr hadd
                    have HST : Hid (∀ z, Inv3 o b off p n L F w (k * 3 + m + 1) (wr.setCell ⟨b, off + 9 + k * 3 + m, none⟩ (.float .f64 z))) := fun z => STEP.out z (fun r' h => by rw [hadd] at h; cases h)
                    clear STEP hadd
                    go_wp2
                    go_region
                    all_goals
                      go_wp2
                      go_roundw
                      case rel => exact ⟨m + 1, by omega, by go_num, inv3_drew (inv3_drew (HST.out _))⟩
                      case measure => simp [intOf]; omega
                · have hm3 : m = 3 := by omega
                  have HI3 : Hid (Inv3 o b off p n L F w ((k + 1) * 3) wr) := by
                    have h := HI.out
                    rw [hm3] at h
                    rw [show (k + 1) * 3 = k * 3 + 3 by omega]
                    exact h
                  clear hm3 HI
                  go_wp2
                  go_roundw
                  case rel => exact ⟨k + 1, by omega, by go_num, HI3⟩
                  case measure => simp [intOf]; omega
            · have hk4 : k = 3 := by omega
              rw [hk4] at HI
              clear hk4
              obtain ⟨F', s0', s1', co', hH', hI', hr', hX', hD', hK', hP', hQ'⟩ := HI.out
              have g0 := hH'.cell 0 (by omega)
              have g1 := hH'.cell 1 (by omega)
              have g2 := hH'.cell 2 (by omega)
              have g3 := hH'.cell 3 (by omega)
              have g4 := hH'.cell 4 (by omega)
              have f0 := hH'.free 0 (by omega)
              have f1 := hH'.free 1 (by omega)
              have f2 := hH'.free 2 (by omega)
              have f3 := hH'.free 3 (by omega)
              have f4 := hH'.free 4 (by omega)
              rw [Nat.add_zero] at g0 f0
              have HHH := hid hH'
              have HII := hid hI'
              have HRR := hid hr'
              have HKK := hid hK'
              have HPP := hid hP'
              clear hH' hI' hr' hX' hD' hK' hP' hQ' HI
              go_wp2
              go_end0
              exact ⟨rfl, closed_end HHH.out HII.out HRR.out HKK.out HPP.out⟩

end Go.Proofs.Qxb6600900a
