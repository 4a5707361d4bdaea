/-
  The law's own walk, where nothing is pending.
-/
import Derived.Test.Qxb6602660aMainP
namespace Go.Proofs.Qxb6602660a
open Go.RowKit

set_option maxRecDepth 100000 in
set_option maxHeartbeats 3200000 in
theorem main_zero (n cap lt ct cs : Nat) (a at_ as_ : Option Addr) (width rows last : Int) (T : Nat → ByteArray) (Y : Nat → Nat) (Z : Nat → Nat → Int) (zt zs : Nat → Int) (w : World) (hn : n ≤ maxLen) (hlt : lt ≤ maxLen) (hm : ∀ i, i < n → (T i).size ≤ maxLen ∧ Y i ≤ maxLen)
    (hC : Chs w 0 w.heap.size (.slice a n cap) n T Y Z) (hT : IsBy w 0 w.heap.size (.slice at_ lt ct) lt zt) (hS : IsBy w 0 w.heap.size (.slice as_ 0 cs) 0 zs) :
    Calls Try.prog 5 #[.int .i64 width, .slice a n cap, .slice at_ lt ct, .slice as_ 0 cs, .int .i64 rows, .int .i64 last] w fun e w' => e = .returned (.bool true) ∧ Below w.heap.size w w' := by
  have HX := hid (bytes_of (at_ := at_) (ct := ct) (as_ := as_) (cs := cs) (width := width) (rows := rows) (last := last) hn hlt (Nat.zero_le maxLen) hm hC)
  have HC := hid hC
  have HT := hid hT
  have HS := hid hS
  clear hC hT hS hm hn hlt
  go_enter Try.func5, Try.ntmps5
  go_wp2_with (go_at_call 11; refine HX.out.mono ?_; rintro e wx ⟨hwx, r, rfl, hr⟩; obtain rfl := hwx.symm)
  · go_ret
    exact ⟨rfl, Below.refl _ _⟩
  · obtain ⟨hlt1, _, hn1, hm1⟩ := hr (by simpa using ‹(!r) = false›)
    have HM1 := hid hm1
    clear hm1 HX
    go_wp2_with (first
      | (go_at_call 21; refine (bytesEq_of (Nat.zero_le _) M12.out.args.sb.by M12.out.args.s.by).mono ?_; rintro e w13 ⟨rfl, hm13⟩; have M13 := hid (M12.out.drewN hm13); clear hm13)
      | (go_at_call 21; refine (bytesEq_of hlt1 M11.out.args.tb.by M11.out.args.t.by).mono ?_; rintro e w12 ⟨rfl, hm12⟩; have M12 := hid (M11.out.drewN hm12); clear hm12)
      | (go_at_call 20; refine (chsEq_of hn2 (fun i hi => (HM1.out i hi).2) G1.out G2.out M10.out.args.c).mono ?_; rintro e w11 ⟨rfl, hm11⟩; have M11 := hid (M10.out.drewN hm11); clear hm11 M10 G1 G2)
      | (go_at_call 19; refine (fields_of (by omega) M8.out.p2 M8.out.p6 HP.out HC8.out).mono ?_; rintro e w10 ⟨ga, gb, rfl, hG1, hG2, hG3⟩; have G1 := hid hG1; have G2 := hid hG2; have M10 := hid (M8.out.next hG3 M8.out.p2); clear hG1 hG2 hG3 HP HC8 M8)
      | (go_at_call 18; refine (zzseal_none P a5 w8 (HP.out.cell 3 (by omega))).mono ?_; rintro e w9 ⟨rfl, hw9⟩; obtain rfl := hw9.symm)
      | (go_at_call 15; refine (make_of hn2 (Nat.le_refl _) B7.out.size a4 a5 width rows last ((X6.out.agree (Agree.of_below B7.out (Nat.le_refl _))).wide (Nat.zero_le _) B7.out.size) X7.out).mono ?_; rintro e w8 ⟨P, ca, rfl, hP1, hP2, hP3, hP4, hP5⟩; have HP := hid hP3; have HC8 := hid hP4; have M8 := hid (made (B0h.out) B05.out A5.out B6.out B7.out hP5 hP1 hP2); clear hP1 hP2 hP3 hP4 hP5 A5 B05 B6 B7 X6 X7)
      | (go_at_call 17; refine (sizes_of hn2 (fun i hi => (HM1.out i hi).2) (by have := A5.out.l2; have := A5.out.l3; have := A5.out.l4; have := A5.out.l5; have := B6.out.size; omega) ((A5.out.below B6.out (Nat.le_refl _)).c)).mono ?_; rintro e w7 ⟨sa, rfl, hX7, hB7⟩; have X7 := hid hX7; have B7 := hid hB7; clear hX7 hB7)
      | (go_at_call 16; refine (texts_of hn2 A5.out.c).mono ?_; rintro e w6 ⟨ta, rfl, hX6, hB6⟩; have X6 := hid hX6; have B6 := hid hB6; clear hX6 hB6)
      | (go_at_call 14; refine (copyBy_of (Nat.zero_le _) (O3.out.by.agree (Agree.of_below B4.out (Nat.le_refl _)))).mono ?_; rintro e w5 ⟨_, rfl, ⟨a5, rfl, hO5⟩, hB5⟩; have O5 : Hid (OwnBy w5 w4.heap.size w5.heap.size (.slice a5 0 0) 0 zs) := ⟨a5, rfl, hO5⟩; have B5 := hid hB5; have A5 := hid (args_make B1.out C1.out B2.out O2.out B3.out O3.out B4.out O4.out B5.out O5.out); have B05 : Hid (Below w.heap.size w w5) := below_chain HB0.out B1.out B2.out B3.out B4.out B5.out; clear hO5 hB5 B1 B2 B3 B4 B5 C1 O2 O3 O4 O5 HC0 HT0 HS0)
      | (go_at_call 14; refine (copyBy_of hlt1 (O2.out.by.agree (Agree.of_below B3.out (Nat.le_refl _)))).mono ?_; rintro e w4 ⟨_, rfl, ⟨a4, rfl, hO4⟩, hB4⟩; have O4 : Hid (OwnBy w4 w3.heap.size w4.heap.size (.slice a4 lt lt) lt zt) := ⟨a4, rfl, hO4⟩; have B4 := hid hB4; clear hO4 hB4)
      | (go_at_call 14; refine (copyBy_of (Nat.zero_le _) (HS0.out.agree (Agree.of_below (B1.out.trans (B2.out.mono B1.out.size)) (Nat.le_refl _)))).mono ?_; rintro e w3 ⟨_, rfl, ⟨a3, rfl, hO3⟩, hB3⟩; have O3 : Hid (OwnBy w3 w2.heap.size w3.heap.size (.slice a3 0 0) 0 zs) := ⟨a3, rfl, hO3⟩; have B3 := hid hB3; clear hO3 hB3)
      | (go_at_call 14; refine (copyBy_of hlt1 (HT0.out.agree (Agree.of_below B1.out (Nat.le_refl _)))).mono ?_; rintro e w2 ⟨_, rfl, ⟨a2, rfl, hO2⟩, hB2⟩; have O2 : Hid (OwnBy w2 w1.heap.size w2.heap.size (.slice a2 lt lt) lt zt) := ⟨a2, rfl, hO2⟩; have B2 := hid hB2; clear hO2 hB2)
      | (go_at_call 13; have hn2 := hr2 (by simpa using ‹(!r2) = false›); refine (copyChs_of hn2 (fun i hi => (HM1.out i hi).2) HC0.out).mono ?_; rintro e w1 ⟨a1, rfl, hC1, hB1⟩; have C1 := hid hC1; have B1 := hid hB1; clear hC1 hB1)
      | (go_at_call 12; refine (fits_of hn1 hlt1 (Nat.zero_le _) HM1.out HC.out).mono ?_; rintro e w0 ⟨hw0, r2, rfl, hr2⟩; have HB0 : Hid (Below w.heap.size w w0) := (by obtain ⟨m, rfl⟩ := hw0; exact below_drewN (Below.refl _ _) m); have HC0 : Hid (Chs w0 0 w0.heap.size (.slice a n cap) n T Y Z) := (by obtain ⟨m, rfl⟩ := hw0; exact HC.out.agree (fun _ _ _ => rfl)); have HT0 : Hid (IsBy w0 0 w0.heap.size (.slice at_ lt ct) lt zt) := (by obtain ⟨m, rfl⟩ := hw0; exact HT.out.agree (fun _ _ _ => rfl)); have HS0 : Hid (IsBy w0 0 w0.heap.size (.slice as_ 0 cs) 0 zs) := (by obtain ⟨m, rfl⟩ := hw0; exact HS.out.agree (fun _ _ _ => rfl)); have B0h : Hid (w.heap.size ≤ w0.heap.size) := hid HB0.out.size; clear hw0))
    · go_ret
      exact ⟨rfl, HB0.out⟩
    · go_ret
      exact ⟨rfl, M13.out.below⟩

end Go.Proofs.Qxb6602660a
