/-
  The law's own walk, where something is pending.
-/
import Derived.Test.Qxb6602660aMainP
namespace Go.Proofs.Qxb6602660a
open Go.RowKit

set_option maxRecDepth 100000 in
set_option maxHeartbeats 3200000 in
theorem main_some (n cap lt ct ls cs : Nat) (a at_ as_ : Option Addr) (width rows last : Int) (T : Nat → ByteArray) (Y : Nat → Nat) (Z : Nat → Nat → Int) (zt zs : Nat → Int) (w : World) (h0 : 0 < ls) (hn : n ≤ maxLen) (hlt : lt ≤ maxLen) (hls : ls ≤ maxLen) (hm : ∀ i, i < n → (T i).size ≤ maxLen ∧ Y i ≤ maxLen)
    (hC : Chs w 0 w.heap.size (.slice a n cap) n T Y Z) (hT : IsBy w 0 w.heap.size (.slice at_ lt ct) lt zt) (hS : IsBy w 0 w.heap.size (.slice as_ ls cs) ls zs) :
    Calls Try.prog 5 #[.int .i64 width, .slice a n cap, .slice at_ lt ct, .slice as_ ls cs, .int .i64 rows, .int .i64 last] w fun e w' => e = .returned (.bool true) ∧ Below w.heap.size w w' := by
  have HX := hid (bytes_of (at_ := at_) (ct := ct) (as_ := as_) (cs := cs) (width := width) (rows := rows) (last := last) hn hlt hls hm hC)
  have HC := hid hC
  have HT := hid hT
  have HS := hid hS
  clear hC hT hS hm hn hlt hls
  go_enter Try.func5, Try.ntmps5
  go_wp2_with (go_at_call 11; refine HX.out.mono ?_; rintro e wx ⟨hwx, r, rfl, hr⟩; obtain rfl := hwx.symm)
  · go_ret
    exact ⟨rfl, Below.refl _ _⟩
  · obtain ⟨hlt1, hls1, hn1, hm1⟩ := hr (by simpa using ‹(!r) = false›)
    have HM1 := hid hm1
    clear hm1 HX
    go_wp2_with (first
      | (go_at_call 19; refine (fields_of (by omega) (Nat.le_refl _) M9.out.p6 X9.out Y9.out).mono ?_; rintro e w10 ⟨ga, gb, rfl, hG1, hG2, hG3⟩; have G1 := hid hG1; have G2 := hid hG2; have M10 := hid (M9.out.next hG3 M9.out.p2); have N9 := hid (Nat.le_trans M9.out.q5 M9.out.p6); have N10 := hid M10.out.p6; clear hG1 hG2 hG3 X9 Y9 M9)
      | (go_at_call 18; refine (zzseal_some P _ n lt ls sb ca a4 width rows last T Y Z zt zs w8 h0 hls1 hn2 M8.out.q6 HP.out HC8.out M8.out.isT (M8.out.holdS h0)).mono ?_; rintro e w9 ⟨rfl, ca9, cc9, hX9, hY9, hB9⟩; have X9 := hid hX9; have Y9 := hid hY9; have M9 := hid (M8.out.next hB9 (Nat.le_refl _)); clear hX9 hY9 hB9 HP HC8 M8)
      | (go_at_call 15; refine (make_of hn2 (Nat.le_refl _) B7.out.size a4 (some ⟨sb, 0, none⟩) width rows last ((X6.out.agree (Agree.of_below B7.out (Nat.le_refl _))).wide (Nat.zero_le _) B7.out.size) X7.out).mono ?_; rintro e w8 ⟨P, ca, rfl, hP1, hP2, hP3, hP4, hP5⟩; have HP := hid hP3; have HC8 := hid hP4; have M8 := hid (made (B0h.out) B05.out A5.out B6.out B7.out hP5 hP1 hP2); clear hP1 hP2 hP3 hP4 hP5 A5 B05 B6 B7 X6 X7)
      | (go_at_call 17; refine (sizes_of hn2 (fun i hi => (HM1.out i hi).2) (by have := A5.out.l2; have := A5.out.l3; have := A5.out.l4; have := A5.out.l5; have := B6.out.size; omega) ((A5.out.below B6.out (Nat.le_refl _)).c)).mono ?_; rintro e w7 ⟨sa, rfl, hX7, hB7⟩; have X7 := hid hX7; have B7 := hid hB7; clear hX7 hB7)
      | (go_at_call 16; refine (texts_of hn2 A5.out.c).mono ?_; rintro e w6 ⟨ta, rfl, hX6, hB6⟩; have X6 := hid hX6; have B6 := hid hB6; clear hX6 hB6)
      | (go_at_call 14; refine (copyBy_of hls1 (O3.out.by.agree (Agree.of_below B4.out (Nat.le_refl _)))).mono ?_; rintro e w5 ⟨_, rfl, ⟨a5, rfl, hO5⟩, hB5⟩; obtain ⟨sb, rfl⟩ := own_some h0 hO5; have O5 : Hid (OwnBy w5 w4.heap.size w5.heap.size (.slice (some ⟨sb, 0, none⟩) ls ls) ls zs) := ⟨_, rfl, hO5⟩; have B5 := hid hB5; have A5 := hid (args_make B1.out C1.out B2.out O2.out B3.out O3.out B4.out O4.out B5.out O5.out); have B05 : Hid (Below w.heap.size w w5) := below_chain HB0.out B1.out B2.out B3.out B4.out B5.out; clear hO5 hB5 B1 B2 B3 B4 B5 C1 O2 O3 O4 O5 HC0 HT0 HS0)
      | (go_at_call 14; refine (copyBy_of hlt1 (O2.out.by.agree (Agree.of_below B3.out (Nat.le_refl _)))).mono ?_; rintro e w4 ⟨_, rfl, ⟨a4, rfl, hO4⟩, hB4⟩; have O4 : Hid (OwnBy w4 w3.heap.size w4.heap.size (.slice a4 lt lt) lt zt) := ⟨a4, rfl, hO4⟩; have B4 := hid hB4; clear hO4 hB4)
      | (go_at_call 14; refine (copyBy_of hls1 (HS0.out.agree (Agree.of_below (B1.out.trans (B2.out.mono B1.out.size)) (Nat.le_refl _)))).mono ?_; rintro e w3 ⟨_, rfl, ⟨a3, rfl, hO3⟩, hB3⟩; have O3 : Hid (OwnBy w3 w2.heap.size w3.heap.size (.slice a3 ls ls) ls zs) := ⟨a3, rfl, hO3⟩; have B3 := hid hB3; clear hO3 hB3)
      | (go_at_call 14; refine (copyBy_of hlt1 (HT0.out.agree (Agree.of_below B1.out (Nat.le_refl _)))).mono ?_; rintro e w2 ⟨_, rfl, ⟨a2, rfl, hO2⟩, hB2⟩; have O2 : Hid (OwnBy w2 w1.heap.size w2.heap.size (.slice a2 lt lt) lt zt) := ⟨a2, rfl, hO2⟩; have B2 := hid hB2; clear hO2 hB2)
      | (go_at_call 13; have hn2 := hr2 (by simpa using ‹(!r2) = false›); refine (copyChs_of hn2 (fun i hi => (HM1.out i hi).2) HC0.out).mono ?_; rintro e w1 ⟨a1, rfl, hC1, hB1⟩; have C1 := hid hC1; have B1 := hid hB1; clear hC1 hB1)
      | (go_at_call 12; refine (fits_of hn1 hlt1 hls1 HM1.out HC.out).mono ?_; rintro e w0 ⟨hw0, r2, rfl, hr2⟩; have HB0 : Hid (Below w.heap.size w w0) := (by obtain ⟨m, rfl⟩ := hw0; exact below_drewN (Below.refl _ _) m); have HC0 : Hid (Chs w0 0 w0.heap.size (.slice a n cap) n T Y Z) := (by obtain ⟨m, rfl⟩ := hw0; exact HC.out.agree (fun _ _ _ => rfl)); have HT0 : Hid (IsBy w0 0 w0.heap.size (.slice at_ lt ct) lt zt) := (by obtain ⟨m, rfl⟩ := hw0; exact HT.out.agree (fun _ _ _ => rfl)); have HS0 : Hid (IsBy w0 0 w0.heap.size (.slice as_ ls cs) ls zs) := (by obtain ⟨m, rfl⟩ := hw0; exact HS.out.agree (fun _ _ _ => rfl)); have B0h : Hid (w.heap.size ≤ w0.heap.size) := hid HB0.out.size; clear hw0))
    · go_ret
      exact ⟨rfl, HB0.out⟩
    · obtain ⟨k1, b1, o1, rfl, kb1, kc1⟩ := G1.out.cut
      obtain ⟨k3, b2, o2, rfl, kb2, va, vc, kc2, kv⟩ := G2.out.cut
      have i0 : (0 : Int) ≤ (n : Int) := by omega
      have i1 : (n : Int) ≤ ((n + 1 : Nat) : Int) := by omega
      have i2 : (n : Int) < ((n + 1 : Nat) : Int) := by omega
      have K1 := hid k1
      have K3 := hid k3
      have KB1 := hid (Nat.le_trans N9.out kb1)
      have KC1 := hid kc1
      have KB2 := hid kb2
      have KC2 := hid kc2
      have KV := hid kv
      clear k1 kb1 kc1 k3 kb2 kc2 kv G1 G2
      go_quiet ((go_at_call 20; refine Calls.quiet_of (chsEq_of hn2 (fun i hi => (HM1.out i hi).2) (K1.out.agree (fun _ _ _ => rfl)) (K3.out.agree (fun _ _ _ => rfl)) (M10.out.args.c.agree (fun _ _ _ => rfl)))))
      go_wp2_with fail
      have M11 := hid (M10.out.drewN ⟨nq, rfl⟩)
      have L0 := hid (L1.start M11.out)
      have C1 : Hid ((w10.drewN nq).cell? ⟨b1, o1 + n, none⟩ = some (.string (strZ zt lt))) := KC1.out
      have C2 : Hid ((w10.drewN nq).cell? ⟨b2, o2 + n, none⟩ = some (.slice va ls vc)) := KC2.out
      have V2 := hid (KV.out.agree (w' := w10.drewN nq) (fun _ _ _ => rfl))
      clear K1 K3 KC1 KC2 KV M10
      obtain ⟨w11, hw11⟩ : ∃ w11, w11 = w10.drewN nq := ⟨_, rfl⟩
      rw [← hw11] at M11 L0 C1 C2 V2 ⊢
      clear hw11
      go_loopw [24] (fun i wr => ∃ k : Nat, k ≤ lt ∧ i = .int .i64 k ∧ Hid (L1 w11 w3.heap.size w4.heap.size w5.heap.size lt ls a4 (some ⟨sb, 0, none⟩) wr)) (fun i _ => lt - (intOf i).toNat)
      case atStart => exact ⟨0, Nat.zero_le _, rfl, L0⟩
      case round =>
        obtain ⟨k, hk, rfl, HL⟩ := hrel
        by_cases hkl : k < lt
        · obtain ⟨z, hz⟩ := HL.out.t
          obtain ⟨b4, q, rfl, hb3, hb4, hq, hf⟩ := own_cell hz hkl
          have HN := hid (fun q => HL.out.stepT hkl hb3 hb4 q)
          clear hz hb3 hb4 HL
          have j1 : (0 : Int) ≤ (k : Int) := by omega
          have j2 : (k : Int) < (lt : Int) := by omega
          go_wp2
          go_roundw
          case rel => exact ⟨k + 1, by omega, by go_num, HN.out _⟩
          case measure => simp [intOf]; omega
        · have hke : lt = k := by omega
          subst hke
          go_wp2_with fail
          go_loopw [25] (fun i wr => ∃ k : Nat, k ≤ ls ∧ i = .int .i64 k ∧ Hid (L1 w11 w3.heap.size w4.heap.size w5.heap.size lt ls a4 (some ⟨sb, 0, none⟩) wr)) (fun i _ => ls - (intOf i).toNat)
          case atStart => exact ⟨0, Nat.zero_le _, rfl, HL⟩
          case round =>
            clear HL L0
            obtain ⟨k', hk', rfl, HL⟩ := hrel
            by_cases hkl : k' < ls
            · obtain ⟨z, hz⟩ := HL.out.s
              obtain ⟨b5, q, e5, hb3, hb4, hq, hf⟩ := own_cell hz hkl
              cases e5
              have HN := hid (fun q => HL.out.stepS hkl hb3 hb4 q)
              clear hz hb3 hb4 HL
              have j1 : (0 : Int) ≤ (k' : Int) := by omega
              have j2 : (k' : Int) < (ls : Int) := by omega
              go_wp2
              go_roundw
              case rel => exact ⟨k' + 1, by omega, by go_num, HN.out _⟩
              case measure => simp [intOf]; omega
            · have HE := hid (ends_of M11.out HL.out KB1.out C1.out KB2.out C2.out (Nat.le_refl _) N10.out V2.out)
              have hke : ls = k' := by omega
              subst hke
              clear HL M11 C1 C2 V2 KB1 KB2 N9 N10
              have c1 := HE.out.c1
              have c2 := HE.out.c2
              have hcv : ∀ q, (convert 26 9 (.slice a2 lt lt)).run Try.prog (wr.drewN q) = .ok (.string (strZ zt lt)) (wr.drewN q) := fun q => conv_of (HE.out.t.agree (fun _ _ _ => rfl))
              go_wp2_with fail
              go_quiet ((go_at_call 21; refine Calls.quiet_of (bytesEq_of hls1 (HE.out.v.agree (fun _ _ _ => rfl)) (HE.out.s.agree (fun _ _ _ => rfl)))))
              go_wp2
              go_ret
              exact ⟨rfl, below_drewN HE.out.below _⟩

end Go.Proofs.Qxb6602660a
