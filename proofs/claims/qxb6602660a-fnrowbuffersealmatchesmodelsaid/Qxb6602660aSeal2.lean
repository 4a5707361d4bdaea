/-
  'table.ZZSeal' (18) whole.
-/
import Derived.Test.Qxb6602660aSeal
namespace Go.Proofs.Qxb6602660a
open Go.RowKit

set_option maxHeartbeats 800000 in
theorem seal_none (P : Nat) (as_ : Option Addr) (w : World) (p3 : w.cell? ⟨P, 3, none⟩ = some (.slice as_ 0 0)) :
    Calls Try.prog 25 #[.pointer (some ⟨P, 0, none⟩)] w fun e w' => e = .returned (.tuple #[]) ∧ w' = w := by
  go_enter Try.func25, Try.ntmps25
  go_wp2
  go_end0
  exact ⟨rfl, rfl⟩

set_option maxHeartbeats 800000 in
theorem zzseal_none (P : Nat) (as_ : Option Addr) (w : World) (p3 : w.cell? ⟨P, 3, none⟩ = some (.slice as_ 0 0)) :
    Calls Try.prog 18 #[.pointer (some ⟨P, 0, none⟩)] w fun e w' => e = .returned (.tuple #[]) ∧ w' = w := by
  go_enter Try.func18, Try.ntmps18
  go_wp2_with (go_at_call 25; refine (seal_none P as_ w p3).mono ?_; rintro e w1 ⟨rfl, rfl⟩)
  go_end0
  exact ⟨rfl, rfl⟩

set_option maxHeartbeats 800000 in
theorem zzseal_some (P lo n lt ls sb : Nat) (ca at_ : Option Addr) (width rows last : Int) (T : Nat → ByteArray) (Y : Nat → Nat) (Z : Nat → Nat → Int) (zt zs : Nat → Int) (w : World) (h0 : 0 < ls) (hls : ls ≤ 1048576) (hn : n ≤ 65536) (hlo : lo ≤ P)
    (hH : Holds w P 0 6 (rbF width (.slice ca n n) (.slice at_ lt lt) (.slice (some ⟨sb, 0, none⟩) ls ls) rows last)) (hC : Chs w lo P (.slice ca n n) n T Y Z) (hT : IsBy w 0 P (.slice at_ lt lt) lt zt) (hS : Holds w sb 0 ls (u8R zs)) :
    Calls Try.prog 18 #[.pointer (some ⟨P, 0, none⟩)] w fun e w' => e = .returned (.tuple #[]) ∧ Sealed w w' P lo n lt ls at_ (some ⟨sb, 0, none⟩) width rows last T Y Z zt zs := by
  have HX := hid (seal_some P lo n lt ls sb ca at_ width rows last T Y Z zt zs w h0 hls hn hlo hH hC hT hS)
  clear hH hC hT hS
  go_enter Try.func18, Try.ntmps18
  go_wp2_with (go_at_call 25; refine HX.out.mono ?_; rintro e w1 ⟨rfl, hX⟩; have HY := hid hX; clear hX)
  go_end0
  exact ⟨rfl, HY.out⟩

end Go.Proofs.Qxb6602660a
