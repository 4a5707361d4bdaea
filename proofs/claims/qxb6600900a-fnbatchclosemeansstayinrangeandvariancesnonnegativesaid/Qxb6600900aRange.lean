import Derived.Test.Qxb6600900aRangeP
import Derived.Deep.QuietTactic
import Derived.BigQuiet
namespace Go.Proofs.Qxb6600900a
open Go.RowKit
attribute [local go_sem] run_store_float

/-- Every value of a batch is finite and at most 1e300 in size. -/
def Batch.In (b : Batch) : Prop := withinB b.u = true ∧ withinB b.c0 = true ∧ withinB b.c1 = true ∧ withinB b.e0 = true ∧ withinB b.e1 = true

set_option maxRecDepth 100000 in
set_option maxHeartbeats 1600000 in
theorem range_some (b off len cap : Nat) (B : Nat → Batch) (w : World) (h0 : 0 < len) (hl : len ≤ 18724) (hc : ∀ i, i < len → ∀ j v, (B i).cells[j]? = some v → w.cell? ⟨b, off + (i * 6 + j), none⟩ = some v) (hbw : b < w.heap.size) :
    Calls Try.prog 4 #[.slice (some ⟨b, off, none⟩) len cap] w fun e w' => e = .returned (.bool true) ∧ Below w.heap.size w w' := by
  have HC := hid hc
  clear hc
  go_enter Try.func4, Try.ntmps4
  go_wp2_with (go_in)
  go_loopw [3] (fun i wr => ∃ k : Nat, k ≤ len ∧ i = .int .i64 k ∧ Hid (∀ q, q < k → (B q).In) ∧ Hid (Below w.heap.size w wr)) (fun i _ => len - (intOf i).toNat)
  case atStart => exact ⟨0, Nat.zero_le _, rfl, fun q hq => absurd hq (Nat.not_lt_zero _), Below.refl _ _⟩
  case round =>
    obtain ⟨k, hk, rfl, HI, HB⟩ := hrel
    by_cases hlt : k < len
    · obtain ⟨⟨p, u, c0, c1, e0, e1⟩, hbt⟩ : ∃ x, x = B k := ⟨_, rfl⟩
      have hcc : ∀ j v, (⟨p, u, c0, c1, e0, e1⟩ : Batch).cells[j]? = some v → wr.cell? ⟨b, off + (k * 6 + j), none⟩ = some v := by
        intro j v hv
        rw [HB.out.cell (p := ⟨b, off + (k * 6 + j), none⟩) hbw]
        rw [hbt] at hv
        exact HC.out k hlt j v hv
      have g0 : wr.cell? ⟨b, off + k * 6, none⟩ = some (.int .u64 p) := hcc 0 _ rfl
      have g1 : wr.cell? ⟨b, off + k * 6 + 1, none⟩ = some (.float .f64 u) := hcc 1 _ rfl
      have g2 : wr.cell? ⟨b, off + k * 6 + 2, none⟩ = some (.float .f64 c0) := hcc 2 _ rfl
      have g3 : wr.cell? ⟨b, off + k * 6 + 3, none⟩ = some (.float .f64 c1) := hcc 3 _ rfl
      have g4 : wr.cell? ⟨b, off + k * 6 + 4, none⟩ = some (.float .f64 e0) := hcc 4 _ rfl
      have g5 : wr.cell? ⟨b, off + k * 6 + 5, none⟩ = some (.float .f64 e1) := hcc 5 _ rfl
      have HBT := hid hbt
      clear hcc hbt
      have HB' := hid (HB.out.alloc HB.out.size (.cells #[.int .u64 p, .float .f64 u, .float .f64 c0, .float .f64 c1, .float .f64 e0, .float .f64 e1] 36))
      by_cases hin : Batch.In ⟨p, u, c0, c1, e0, e1⟩
      · obtain ⟨i0, i1, i2, i3, i4⟩ := hin
        dsimp only at i0 i1 i2 i3 i4
        have HI' : Hid (∀ q, q < k + 1 → (B q).In) := by
          intro q hq
          by_cases e : q < k
          · exact HI.out q e
          · obtain rfl : q = k := by omega
            rw [← HBT.out]
            exact ⟨i0, i1, i2, i3, i4⟩
        go_wp2_with (go_at_call 8; refine (within_any _ _).mono ?_; rintro e w' ⟨rfl, rfl⟩)
        go_roundw
        case rel =>
          (repeat apply Exists.intro)
          refine ⟨?_, rfl⟩
          exact ⟨k + 1, by omega, rfl, HI', HB'⟩
        case measure => simp [intOf]; omega
      · have hin' : withinB u = false ∨ withinB c0 = false ∨ withinB c1 = false ∨ withinB e0 = false ∨ withinB e1 = false := by
          cases i0 : withinB u
          · exact .inl rfl
          cases i1 : withinB c0
          · exact .inr (.inl rfl)
          cases i2 : withinB c1
          · exact .inr (.inr (.inl rfl))
          cases i3 : withinB e0
          · exact .inr (.inr (.inr (.inl rfl)))
          cases i4 : withinB e1
          · exact .inr (.inr (.inr (.inr rfl)))
          exact absurd ⟨i0, i1, i2, i3, i4⟩ hin
        clear hin
        cases i0 : withinB u
        · go_wp2_with (go_at_call 8; refine (within_any _ _).mono ?_; rintro e w' ⟨rfl, rfl⟩)
          go_ret
          exact ⟨rfl, HB'.out⟩
        cases i1 : withinB c0
        · go_wp2_with (go_at_call 8; refine (within_any _ _).mono ?_; rintro e w' ⟨rfl, rfl⟩)
          go_ret
          exact ⟨rfl, HB'.out⟩
        cases i2 : withinB c1
        · go_wp2_with (go_at_call 8; refine (within_any _ _).mono ?_; rintro e w' ⟨rfl, rfl⟩)
          go_ret
          exact ⟨rfl, HB'.out⟩
        cases i3 : withinB e0
        · go_wp2_with (go_at_call 8; refine (within_any _ _).mono ?_; rintro e w' ⟨rfl, rfl⟩)
          go_ret
          exact ⟨rfl, HB'.out⟩
        cases i4 : withinB e1
        · go_wp2_with (go_at_call 8; refine (within_any _ _).mono ?_; rintro e w' ⟨rfl, rfl⟩)
          go_ret
          exact ⟨rfl, HB'.out⟩
        rw [i0, i1, i2, i3, i4] at hin'
        simp at hin'
    · have hkl : k = len := by omega
      subst hkl
      go_wp2_with (go_at_call 11; refine (copyB_some b off k cap B wr (by omega) ?_ ?_).mono ?_)
      · intro i hi j v hv
        rw [HB.out.cell (p := ⟨b, off + (i * 6 + j), none⟩) hbw]
        exact HC.out i hi j v hv
      · exact Nat.lt_of_lt_of_le hbw HB.out.size
      · rintro e wc ⟨rfl, hH, hB⟩
        have HIN : Hid (∀ q, q < k → (B q).In) := HI
        have HCP := hid hH
        have HBE := hid (HB.out.trans (hB.mono HB.out.size))
        have HWA : Hid (w.heap.size ≤ wr.heap.size ∧ wr.heap.size < wc.heap.size) := ⟨HB.out.size, hH.lt (by omega)⟩
        obtain ⟨A, hA⟩ : ∃ A, A = wr.heap.size := ⟨_, rfl⟩
        rw [← hA] at HCP HWA ⊢
        clear hH hB HB HI hA HC hlt hk
        have HSt := hid (stR_start w wc A (k * 6) B HCP.out HBE.out HWA.out.1 HWA.out.2)
        obtain ⟨S, hS⟩ : ∃ S, S = wc.heap.size := ⟨_, rfl⟩
        rw [← hS] at HSt
        clear HCP HBE
        go_wp2
        rw [← hS, show S + 1 + 1 = S + 2 from rfl]
        clear HWA hS
        go_loopw [8] (fun v wr => ∃ i : Nat, i ≤ k ∧ v = .int .i64 i ∧ Hid (StR w A S (k * 6) B i wr)) (fun v _ => k - (intOf v).toNat)
        case atStart => exact ⟨0, by omega, rfl, HSt⟩
        case round =>
          clear HSt
          obtain ⟨i, hi, rfl, HI⟩ := hrel
          by_cases hlt : i < k
          · obtain ⟨p0, s0, s1, d0, d1, f0, f1, m, co, l, bu, cr, L, H, hS', hLo, hHi, hCp, hBel, hg1, hg2, hbm, hz, hnn, hl', hen⟩ := HI.out
            obtain ⟨⟨p, u, c0, c1, e0, e1⟩, hbt⟩ : ∃ x, x = B i := ⟨_, rfl⟩
            have hin := HIN.out i hlt
            rw [← hbt] at hin
            obtain ⟨i0, i1, i2, i3, i4⟩ := hin
            dsimp only at i0 i1 i2 i3 i4
            obtain ⟨t1, x1, s1', q1, bx1⟩ := Fl.dev_step (within_fin i1) (within_fin i3)
            obtain ⟨t2, x2, s2', q2, bx2⟩ := Fl.dev_step (within_fin i2) (within_fin i4)
            have r1 := fun w => run_float_arith (P := Try.prog) w .sub 22 .f64 c0 e0 t1 s1'
            have r2 := fun w => run_float_arith (P := Try.prog) w .sub 22 .f64 c1 e1 t2 s2'
            have r3 := fun w => run_float_arith (P := Try.prog) w .quo 22 .f64 t1 4666723172467343360 x1 q1
            have r4 := fun w => run_float_arith (P := Try.prog) w .quo 22 .f64 t2 4666723172467343360 x2 q2
            have hbc : ∀ j, j < 6 → wr.cell? ⟨A, i * 6 + j, none⟩ = some ((⟨p, u, c0, c1, e0, e1⟩ : Batch).cells.getD j (.int .u64 0)) := by
              intro j hj
              have := hCp.cell (i * 6 + j) (by omega)
              rw [Nat.zero_add, bcell_at B i j hj, ← hbt] at this
              exact this
            have HQ := hid (q_start (w := w) ⟨p, u, c0, c1, e0, e1⟩ x1 x2 hS' hLo hHi hCp hBel hg1 hg2)
            have g0 : wr.cell? ⟨A, i * 6, none⟩ = some (.int .u64 p) := hbc 0 (by omega)
            have g1 : wr.cell? ⟨A, i * 6 + 1, none⟩ = some (.float .f64 u) := hbc 1 (by omega)
            have g2 : wr.cell? ⟨A, i * 6 + 2, none⟩ = some (.float .f64 c0) := hbc 2 (by omega)
            have g3 : wr.cell? ⟨A, i * 6 + 3, none⟩ = some (.float .f64 c1) := hbc 3 (by omega)
            have g4 : wr.cell? ⟨A, i * 6 + 4, none⟩ = some (.float .f64 e0) := hbc 4 (by omega)
            have g5 : wr.cell? ⟨A, i * 6 + 5, none⟩ = some (.float .f64 e1) := hbc 5 (by omega)
            dsimp only at HQ
            obtain ⟨x, hx⟩ : ∃ x : Nat → Nat, x = fun t => if t = 0 then u else if t = 1 then x1 else x2 := ⟨_, rfl⟩
            rw [← hx] at HQ
            have HXX := hid hx
            have HE : Hid (Enc i m x L H 0) := ⟨hen, fun t ht => absurd ht (Nat.not_lt_zero _)⟩
            have BX : Hid (∀ t, t < 3 → Fl.Bd (x t)) := by
              intro t ht
              rw [hx]
              rcases (show t = 0 ∨ t = 1 ∨ t = 2 by omega) with rfl | rfl | rfl
              · exact Fl.bd_within (within_fin i0)
              · exact bx1
              · exact bx2
            have S1 := hid s1'
            have S2 := hid s2'
            have Q1 := hid q1
            have Q2 := hid q2
            have BX1 := hid bx1
            have BX2 := hid bx2
            have HBM := hid hbm
            have HZ := hid hz
            have HNN := hid hnn
            have HL := hid hl'
            have I0 := hid i0
            clear s1' s2' q1 q2 bx1 bx2 hbm hz hnn hl' hen i0 i1 i2 i3 i4 hx hbc hS' hLo hHi hCp hBel hg1 hg2 HI hbt
            go_wp2
            clear g0 g1 g2 g3 g4 g5 r1 r2 r3 r4
            obtain ⟨X, hX⟩ : ∃ X, X = wr.heap.size := ⟨_, rfl⟩
            obtain ⟨w1, hw1⟩ : ∃ w1, w1 = ((wr.alloc (.cells #[.int .u64 p, .float .f64 u, .float .f64 c0, .float .f64 c1, .float .f64 e0, .float .f64 e1] 36)).alloc (.cells #[.float .f64 u, .float .f64 x1, .float .f64 x2] 24)) := ⟨_, rfl⟩
            rw [← hw1, ← hX] at HQ ⊢
            clear hX hw1
            go_loopw [11] (fun v wq => ∃ (j : Nat) (L H : Nat → Nat), j ≤ 3 ∧ v = .int .i64 j ∧ Hid (Q w A S X (k * 6) B (bmFF p0 i s0 s1 d0 d1 f0 f1 m co l bu cr) ⟨p, u, c0, c1, e0, e1⟩ x L H wq) ∧ Hid (Enc i m x L H j)) (fun v _ => 3 - (intOf v).toNat)
            case atStart => exact ⟨0, L, H, by omega, rfl, HQ, HE⟩
            case round =>
              clear HQ HE
              obtain ⟨j, L', H', hj, rfl, HQ, HE⟩ := hrel
              by_cases hj3 : j < 3
              · have ji : (j : Int) < 3 := by omega
                have ji0 : (0 : Int) ≤ (j : Int) := by omega
                have gx : wr.cell? ⟨X + 1, j, none⟩ = some (.float .f64 (x j)) := by have := HQ.out.xs.cell j hj3; rwa [Nat.zero_add] at this
                have gl : wr.cell? ⟨S + 1, j, none⟩ = some (.float .f64 (L' j)) := by have := HQ.out.lo.cell j hj3; rwa [Nat.zero_add] at this
                have gh : wr.cell? ⟨S + 2, j, none⟩ = some (.float .f64 (H' j)) := by have := HQ.out.hi.cell j hj3; rwa [Nat.zero_add] at this
                have vl : wr.frozen? ⟨S + 1, j, none⟩ = false := by have := HQ.out.lo.free j hj3; rwa [Nat.zero_add] at this
                have vh : wr.frozen? ⟨S + 2, j, none⟩ = false := by have := HQ.out.hi.free j hj3; rwa [Nat.zero_add] at this
                have hfx := hid (BX.out j hj3).1
                have hfe := hid (HE.out.1 j hj3)
                obtain ⟨xv, hxv⟩ : ∃ xv, xv = x j := ⟨_, rfl⟩
                obtain ⟨lv, hlv⟩ : ∃ lv, lv = L' j := ⟨_, rfl⟩
                obtain ⟨hv, hhv⟩ : ∃ hv, hv = H' j := ⟨_, rfl⟩
                rw [← hxv] at gx hfx
                rw [← hlv] at gl hfe
                rw [← hhv] at gh hfe
                have HXV := hid hxv
                have HLV := hid hlv
                have HHV := hid hhv
                clear hxv hlv hhv
                have ne1 : S ≠ X := by have := HQ.out.g3; omega
                have ne2 : X ≠ S := fun h => ne1 h.symm
                have ne3 : S + 1 ≠ X + 1 := by omega
                have ne4 : X + 1 ≠ S + 1 := by omega
                have ne5 : S + 2 ≠ X + 1 := by have := HQ.out.g3; omega
                have ne6 : X + 1 ≠ S + 2 := by have := HQ.out.g3; omega
                have ne7 : S + 1 ≠ X := by have := HQ.out.g3; omega
                have ne8 : X ≠ S + 1 := by have := HQ.out.g3; omega
                by_cases hz : i = 0
                · have hzb : ((i : Int) == 0) = true := by rw [hz]; rfl
                  have hz' := hid hz
                  clear hz
                  go_wp2_with fail
                  go_quiet (fail)
                  go_wp2_with fail
                  go_quiet (fail)
                  go_wp2
                  go_roundw
                  case rel =>
                    have e := enc_step HE.out hj3 (BX.out j hj3).1 (l' := xv) (h' := xv) (.inl ⟨HXV.out, .inl hz'.out⟩) (.inl ⟨HXV.out, .inl hz'.out⟩)
                    exact ⟨j + 1, updN L' j xv, updN H' j xv, by omega, by go_num, (((HQ.out.drewN _).setLo j hj3 _).drewN _).setHi j hj3 _, e⟩
                  case measure => simp [intOf]; omega
                · have hzb : ((i : Int) == 0) = false := by simpa using hz
                  have hz' := hid hz
                  clear hz
                  cases hlo : (FloatKind.f64.format.order xv lv == some .lt)
                  · cases hhi : (FloatKind.f64.format.order xv hv == some .gt)
                    · go_wp2_with fail
                      go_quiet (fail)
                      go_wp2_with fail
                      go_quiet (fail)
                      go_wp2
                      go_roundw
                      case rel =>
                        have e := enc_step HE.out hj3 (BX.out j hj3).1 (l' := lv) (h' := hv) (.inr ⟨HLV.out, hz'.out, by rw [← HLV.out, ← HXV.out]; exact ord_nlt hfx.out hfe.out.1 hlo⟩) (.inr ⟨HHV.out, hz'.out, by rw [← HHV.out, ← HXV.out]; exact ord_ngt hfx.out hfe.out.2.1 hhi⟩)
                        rw [HLV.out, updN_self] at e
                        rw [HHV.out, updN_self] at e
                        exact ⟨j + 1, L', H', by omega, by go_num, HQ.out.drewN _, e⟩
                      case measure => simp [intOf]; omega
                    · go_wp2_with fail
                      go_quiet (fail)
                      go_wp2_with fail
                      go_quiet (fail)
                      go_wp2
                      go_roundw
                      case rel =>
                        have e := enc_step HE.out hj3 (BX.out j hj3).1 (l' := lv) (h' := xv) (.inr ⟨HLV.out, hz'.out, by rw [← HLV.out, ← HXV.out]; exact ord_nlt hfx.out hfe.out.1 hlo⟩) (.inl ⟨HXV.out, .inr (by rw [← HHV.out, ← HXV.out]; exact ord_gt hfx.out hfe.out.2.1 hhi)⟩)
                        rw [HLV.out, updN_self] at e
                        exact ⟨j + 1, L', updN H' j xv, by omega, by go_num, (HQ.out.drewN _).setHi j hj3 _, e⟩
                      case measure => simp [intOf]; omega
                  · cases hhi : (FloatKind.f64.format.order xv hv == some .gt)
                    · go_wp2_with fail
                      go_quiet (fail)
                      go_wp2_with fail
                      go_quiet (fail)
                      go_wp2
                      go_roundw
                      case rel =>
                        have e := enc_step HE.out hj3 (BX.out j hj3).1 (l' := xv) (h' := hv) (.inl ⟨HXV.out, .inr (by rw [← HLV.out, ← HXV.out]; exact ord_lt hfx.out hfe.out.1 hlo)⟩) (.inr ⟨HHV.out, hz'.out, by rw [← HHV.out, ← HXV.out]; exact ord_ngt hfx.out hfe.out.2.1 hhi⟩)
                        rw [HHV.out, updN_self] at e
                        exact ⟨j + 1, updN L' j xv, H', by omega, by go_num, ((HQ.out.drewN _).setLo j hj3 _).drewN _, e⟩
                      case measure => simp [intOf]; omega
                    · go_wp2_with fail
                      go_quiet (fail)
                      go_wp2_with fail
                      go_quiet (fail)
                      go_wp2
                      go_roundw
                      case rel =>
                        have e := enc_step HE.out hj3 (BX.out j hj3).1 (l' := xv) (h' := xv) (.inl ⟨HXV.out, .inr (by rw [← HLV.out, ← HXV.out]; exact ord_lt hfx.out hfe.out.1 hlo)⟩) (.inl ⟨HXV.out, .inr (by rw [← HHV.out, ← HXV.out]; exact ord_gt hfx.out hfe.out.2.1 hhi)⟩)
                        exact ⟨j + 1, updN L' j xv, updN H' j xv, by omega, by go_num, (((HQ.out.drewN _).setLo j hj3 _).drewN _).setHi j hj3 _, e⟩
                      case measure => simp [intOf]; omega
              · have hj4 : j = 3 := by omega
                have HE3 : Hid (Enc i m x L' H' 3) := by rw [← hj4]; exact HE
                clear hj4 HE
                have hq := HQ.out
                have b0 : wr.cell? ⟨X, 0, none⟩ = some (.int .u64 p) := hq.bt.cell 0 (by omega)
                have b1 : wr.cell? ⟨X, 1, none⟩ = some (.float .f64 u) := hq.bt.cell 1 (by omega)
                have b2 : wr.cell? ⟨X, 2, none⟩ = some (.float .f64 c0) := hq.bt.cell 2 (by omega)
                have b3 : wr.cell? ⟨X, 3, none⟩ = some (.float .f64 c1) := hq.bt.cell 3 (by omega)
                have b4 : wr.cell? ⟨X, 4, none⟩ = some (.float .f64 e0) := hq.bt.cell 4 (by omega)
                have b5 : wr.cell? ⟨X, 5, none⟩ = some (.float .f64 e1) := hq.bt.cell 5 (by omega)
                have a0 := hq.s.cell 0 (by omega)
                have a1 := hq.s.cell 1 (by omega)
                have a2 := hq.s.cell 2 (by omega)
                have a3 := hq.s.cell 3 (by omega)
                have a4 := hq.s.cell 4 (by omega)
                have v0 := hq.s.free 0 (by omega)
                have v1 := hq.s.free 1 (by omega)
                have v2 := hq.s.free 2 (by omega)
                have v3 := hq.s.free 3 (by omega)
                have v4 := hq.s.free 4 (by omega)
                rw [Nat.zero_add] at a0 a1 a2 a3 a4 v0 v1 v2 v3 v4
                have ne1 : S ≠ X := by have := hq.g3; omega
                have ne2 : X ≠ S := fun h => ne1 h.symm
                clear hq
                go_upto_region 29 with fail
                have hQ2 := q_laid HQ.out
                dsimp only at hQ2
                obtain ⟨w2, hw2⟩ : ∃ w2, w2 = (((((wr.setCell ⟨S, 0, none⟩ (.int .u64 p)).setCell ⟨S, 1, none⟩ (.float .f64 c0)).setCell ⟨S, 2, none⟩ (.float .f64 c1)).setCell ⟨S, 3, none⟩ (.float .f64 e0)).setCell ⟨S, 4, none⟩ (.float .f64 e1)) := ⟨_, rfl⟩
                rw [← hw2] at hQ2 ⊢
                have b1' : w2.cell? ⟨X, 1, none⟩ = some (.float .f64 u) := hQ2.bt.cell 1 (by omega)
                clear b0 b1 b2 b3 b4 b5 a0 a1 a2 a3 a4 v0 v1 v2 v3 v4 hw2 HQ
                obtain ⟨Lm, hL, hmax⟩ := max_fin HL.out (within_fin I0.out).1
                have HLL : Hid (Fl.Fin Lm) := by rcases hL with rfl | rfl; exact HL.out; exact (within_fin I0.out).1
                clear hL
                obtain ⟨o, OIs, Ov, Og, Ox1, Ox2⟩ := ops_named c0 c1 e0 e1 (m 0) (m 1) (m 2) (co 0) (co 1) (co 2) (co 3) (co 4) (co 5) (co 6) (co 7) (co 8) u t1 t2 x1 x2 i (by omega) S1.out S2.out Q1.out Q2.out (Fl.bd_within (within_fin I0.out)) BX1.out BX2.out ⟨HBM.out 0 (by omega), HBM.out 1 (by omega), HBM.out 2 (by omega)⟩ (fun h => ⟨HZ.out h 0 (by omega), HZ.out h 1 (by omega), HZ.out h 2 (by omega)⟩)
                have hr2 : w2.rangeAt S 0 [.int .u64 p, .float .f64 c0, .float .f64 c1, .float .f64 e0, .float .f64 e1, .int .i64 (i : Int), .float .f64 (m 0), .float .f64 (m 1), .float .f64 (m 2), .float .f64 (co 0), .float .f64 (co 1), .float .f64 (co 2), .float .f64 (co 3), .float .f64 (co 4), .float .f64 (co 5), .float .f64 (co 6), .float .f64 (co 7), .float .f64 (co 8), .int .i64 s0, .int .i64 s1, .float .f64 l, .float .f64 bu, .float .f64 cr] := by
                  intro j v hj
                  have hlt : j < 23 := (List.getElem?_eq_some_iff.1 hj).1
                  have e := bm_at p i s0 s1 c0 c1 e0 e1 (m 0) (m 1) (m 2) (co 0) (co 1) (co 2) (co 3) (co 4) (co 5) (co 6) (co 7) (co 8) l bu cr j hlt
                  rw [hQ2.s.cell j hlt]
                  unfold bmFF
                  rw [← e]
                  exact hj
                iterate 2 (first | go_step | go_skip | go_upon)
                refine wp_load_mid 30 (.tmp 5) rfl S 0 rfl [.int .u64 p, .float .f64 c0, .float .f64 c1, .float .f64 e0, .float .f64 e1, .int .i64 (i : Int), .float .f64 (m 0), .float .f64 (m 1), .float .f64 (m 2), .float .f64 (co 0), .float .f64 (co 1), .float .f64 (co 2), .float .f64 (co 3), .float .f64 (co 4), .float .f64 (co 5), .float .f64 (co 6), .float .f64 (co 7), .float .f64 (co 8), .int .i64 s0, .int .i64 s1, .float .f64 l, .float .f64 bu, .float .f64 cr] _ hr2 Try.underlying30 rfl (by kernel_rfl) ?_
                have HQ2 := hid hQ2
                have HMX := hid hmax
                have HOV := hid Ov
                have HOG := hid Og
                have HOI := hid OIs
                have HX1 := hid Ox1
                have HX22 := hid Ox2
                clear hr2 hQ2 hmax Ov Og OIs Ox1 Ox2
                go_wp2_with fail
                refine (bmclose_any o p i s0 s1 c0 c1 e0 e1 (m 0) (m 1) (m 2) (co 0) (co 1) (co 2) (co 3) (co 4) (co 5) (co 6) (co 7) (co 8) l bu cr u Lm _ w2 HOI.out HOV.out (by omega) (by omega) rfl HMX.out).mono ?_
                rintro e w3 ⟨s0', s1', co', hP, rfl, hb3⟩
                have hPP := range_plain HOG.out (m := m) (x := x) (L := L') (H := H') (fun t ht => by
                    rcases (show t = 0 ∨ t = 1 ∨ t = 2 by omega) with rfl | rfl | rfl
                    · exact HOI.out.hm0
                    · exact HOI.out.hm1
                    · exact HOI.out.hm2) (fun t ht => by
                    rw [HXX.out]
                    rcases (show t = 0 ∨ t = 1 ∨ t = 2 by omega) with rfl | rfl | rfl
                    · exact HOI.out.hu
                    · exact HX1.out
                    · exact HX22.out) HE3.out (fun t ht => by
                    have := HNN.out t ht
                    rcases (show t = 0 ∨ t = 1 ∨ t = 2 by omega) with rfl | rfl | rfl
                    · rw [HOI.out.ho0]; exact this
                    · rw [HOI.out.ho4]; exact this
                    · rw [HOI.out.ho8]; exact this) hP
                have HST := hid (stR_next (HQ2.out.below hb3) i s0' s1' o.mp co' Lm bu cr HOG.out.bm hPP.1 hPP.2 HLL.out)
                have HTH := hid (holds_there (HQ2.out.below hb3).s)
                clear hPP hb3 hP HQ2 HMX HOV HOG HOI HX1 HX22 HLL HNN HE3 b1'
                dsimp only
                iterate 2 (first | go_step | go_skip | go_upon)
                refine wp_store_mid 30 (.tmp 5) (.tmp 138) rfl S 0 (bm 0 ((i : Int) + 1) s0' s1' 0 0 0 0 (o.mp 0) (o.mp 1) (o.mp 2) (co' 0) (co' 1) (co' 2) (co' 3) (co' 4) (co' 5) (co' 6) (co' 7) (co' 8) Lm bu cr) rfl rfl HTH.out (by kernel_rfl) (bm_one 0 ((i : Int) + 1) s0' s1' 0 0 0 0 (o.mp 0) (o.mp 1) (o.mp 2) (co' 0) (co' 1) (co' 2) (co' 3) (co' 4) (co' 5) (co' 6) (co' 7) (co' 8) Lm bu cr) ?_
                obtain ⟨w4, hw4⟩ : ∃ w4, w4 = w3.setCells S 0 (bm 0 ((i : Int) + 1) s0' s1' 0 0 0 0 (o.mp 0) (o.mp 1) (o.mp 2) (co' 0) (co' 1) (co' 2) (co' 3) (co' 4) (co' 5) (co' 6) (co' 7) (co' 8) Lm bu cr).toList := ⟨_, rfl⟩
                rw [← hw4] at HST ⊢
                clear hw4 HTH
                go_wp2
                clear HBM HZ HL BX BX1 BX2 S1 S2 Q1 Q2 I0 HXX ne1 ne2
                go_loopw [12] (fun v wq => ∃ j : Nat, j ≤ 3 ∧ v = .int .i64 j ∧ Hid (StR w A S (k * 6) B (i + 1) wq)) (fun v _ => 3 - (intOf v).toNat)
                case atStart => exact ⟨0, by omega, rfl, HST⟩
                case round =>
                  clear HST
                  obtain ⟨j, hj, rfl, HST⟩ := hrel
                  by_cases hj3 : j < 3
                  · obtain ⟨_, _, _, _, _, _, _, m, co, _, _, _, L, H, hS, hLo, hHi, _, _, _, _, hbm, _, hnn, _, hen⟩ := HST.out
                    have ji : (j : Int) < 3 := by omega
                    have ji0 : (0 : Int) ≤ (j : Int) := by omega
                    have gm : wr.cell? ⟨S, 6 + j, none⟩ = some (.float .f64 (m j)) := by
                      have := hS.cell (6 + j) (by omega)
                      rw [Nat.zero_add] at this
                      rw [this]
                      rcases (show j = 0 ∨ j = 1 ∨ j = 2 by omega) with rfl | rfl | rfl <;> rfl
                    have gc : wr.cell? ⟨S, 9 + j * 3 + j, none⟩ = some (.float .f64 (co (j * 3 + j))) := by
                      have := hS.cell (9 + j * 3 + j) (by omega)
                      rw [Nat.zero_add] at this
                      rw [this]
                      rcases (show j = 0 ∨ j = 1 ∨ j = 2 by omega) with rfl | rfl | rfl <;> rfl
                    have gl : wr.cell? ⟨S + 1, j, none⟩ = some (.float .f64 (L j)) := by have := hLo.cell j hj3; rwa [Nat.zero_add] at this
                    have gh : wr.cell? ⟨S + 2, j, none⟩ = some (.float .f64 (H j)) := by have := hHi.cell j hj3; rwa [Nat.zero_add] at this
                    have hen' := hen j hj3
                    have t1 := ord_ge (hbm j hj3).1 hen'.1 (hen'.2.2 (by omega)).1
                    have t2 := ord_le (hbm j hj3).1 hen'.2.1 (hen'.2.2 (by omega)).2
                    have t3 : (FloatKind.f64.format.order (co (j * 3 + j)) 0 == some .gt || FloatKind.f64.format.order (co (j * 3 + j)) 0 == some .eq) = true := Fl.nn_ge (hnn j hj3)
                    clear hen' hen hnn hbm hS hLo hHi
                    go_wp2_with fail
                    go_quiet (fail)
                    go_wp2
                    go_roundw
                    case rel => exact ⟨j + 1, by omega, by go_num, HST.out.drewN _⟩
                    case measure => simp [intOf]; omega
                  · go_wp2
                    go_roundw
                    case rel => first | exact ⟨i + 1, by omega, by go_num, HST⟩ | ((repeat apply Exists.intro); exact ⟨⟨i + 1, by omega, by go_num, HST⟩, rfl⟩)
                    case measure => simp [intOf]; omega
          · go_wp2
            go_ret
            exact ⟨rfl, by obtain ⟨_, _, _, _, _, _, _, _, _, _, _, _, _, _, _, _, _, _, hB, _⟩ := HI.out; exact hB⟩

end Go.Proofs.Qxb6600900a
