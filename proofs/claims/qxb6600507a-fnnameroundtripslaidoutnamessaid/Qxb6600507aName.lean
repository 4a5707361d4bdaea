import Derived.Test.Qxb6600507aRows
import Derived.WalkKit
import Derived.WalkLawsBesides
import Derived.Below
import Derived.Deep.QuietTactic
import Derived.BigQuiet
namespace Go.Proofs.Qxb6600507a
open Go.RowKit

set_option maxHeartbeats 400000 in
/-- The method: the k-th name of a table that lies in one block. -/
theorem name_at (t : ByteArray) (b g n cap k lo hi : Nat) (w : World)
    (ht : w.cell? ⟨b, 0, none⟩ = some (.string t)) (he : w.cell? ⟨b, 1, none⟩ = some (.slice (some ⟨g, 0, none⟩) n cap))
    (hk : k < n) (hn : n ≤ 1048576) (hhi : w.cell? ⟨g, k, none⟩ = some (.int .i32 hi)) (hlo : 0 < k → w.cell? ⟨g, k - 1, none⟩ = some (.int .i32 lo)) (h0 : k = 0 → lo = 0)
    (hl : lo ≤ hi) (hh : hi ≤ t.size) :
    Calls Try.prog 17 #[.pointer (some ⟨b, 0, none⟩), .int .i64 k] w fun e w' => e = .returned (.string (t.extract lo hi)) ∧ ∃ m, w' = w.drewN m := by
  by_cases hz : k = 0
  · have := h0 hz
    subst hz
    subst this
    clear hlo h0
    go_enter Try.func17, Try.ntmps17
    go_wp2
    go_quiet (fail)
    go_wp2
    go_ret
    exact ⟨rfl, _, rfl⟩
  · have hlo' := hlo (by omega)
    have hk1 : (0 : Int) < (k : Int) := by omega
    clear hlo h0 hz
    go_enter Try.func17, Try.ntmps17
    go_wp2
    go_quiet (fail)
    go_wp2
    go_ret
    exact ⟨rfl, _, rfl⟩

set_option maxHeartbeats 400000 in
/-- The shim: a table is laid in a new block, and the method is asked. -/
theorem nameOf_at (t : ByteArray) (g n cap k lo hi : Nat) (w : World)
    (hk : k < n) (hn : n ≤ 1048576) (hhi : w.cell? ⟨g, k, none⟩ = some (.int .i32 hi)) (hlo : 0 < k → w.cell? ⟨g, k - 1, none⟩ = some (.int .i32 lo)) (h0 : k = 0 → lo = 0)
    (hl : lo ≤ hi) (hh : hi ≤ t.size) :
    Calls Try.prog 15 #[.string t, .slice (some ⟨g, 0, none⟩) n cap, .int .i64 k] w fun e w' => e = .returned (.string (t.extract lo hi)) ∧ Below w.heap.size w w' := by
  have hg : g < w.heap.size := World.block_lt_of_cell? w ⟨g, k, none⟩ hhi
  go_enter Try.func15, Try.ntmps15
  go_wp2_with fail
  obtain ⟨o, ho⟩ : ∃ o : Obj, o = .cells #[.string t, .slice (some ⟨g, 0, none⟩) n cap, .slice none 0 0] 33 := ⟨_, rfl⟩
  rw [← ho]
  have hB : Below w.heap.size w (w.alloc o) := (Below.refl _ _).alloc (Nat.le_refl _) _
  have c0 : (w.alloc o).cell? ⟨w.heap.size, 0, none⟩ = some (.string t) := by rw [ho, World.cell?_alloc_new]; rfl
  have c1 : (w.alloc o).cell? ⟨w.heap.size, 1, none⟩ = some (.slice (some ⟨g, 0, none⟩) n cap) := by rw [ho, World.cell?_alloc_new]; rfl
  have c2 : (w.alloc o).cell? ⟨g, k, none⟩ = some (.int .i32 hi) := (hB.cell (p := ⟨g, k, none⟩) hg).trans hhi
  have c3 : 0 < k → (w.alloc o).cell? ⟨g, k - 1, none⟩ = some (.int .i32 lo) := fun h => (hB.cell (p := ⟨g, k - 1, none⟩) hg).trans (hlo h)
  clear ho hhi hlo
  refine (name_at t w.heap.size g n cap k lo hi _ c0 c1 hk hn c2 c3 h0 hl hh).mono ?_
  rintro e w1 ⟨rfl, m, rfl⟩
  have HB : Hid (Below w.heap.size w ((w.alloc o).drewN m)) := below_drewN hB m
  clear c0 c1 c2 c3 hB
  go_wp2
  go_ret
  exact ⟨rfl, HB.out⟩

end Go.Proofs.Qxb6600507a
