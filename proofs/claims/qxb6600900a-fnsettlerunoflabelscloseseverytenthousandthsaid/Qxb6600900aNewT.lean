/-
  'ZZNewTally' (function 14), of no counters.
-/
import Derived.Test.Qxb6600900aIdent
import Derived.WalkSpells
namespace Go.Proofs.Qxb6600900a
open Go.RowKit
attribute [local go_sem] run_store_float

def zc : Value := .agg #[.int .u64 0, .int .u64 0, .int .u64 0, .int .u64 0, .float .f64 0, .float .f64 0, .float .f64 0, .float .f64 0, .int .i64 0, .float .f64 0, .float .f64 0, .float .f64 0, .float .f64 0, .float .f64 0, .float .f64 0, .float .f64 0, .float .f64 0, .float .f64 0, .float .f64 0, .float .f64 0, .float .f64 0, .int .i64 0, .int .i64 0, .float .f64 0, .float .f64 0, .float .f64 0]

/-- The cells of a tally that was made of no counters. -/
def talC (act : Int) : Array Value := #[.int .i64 act, .int .i64 0, .int .u64 0, .int .i64 0, .int .i64 0, .slice none 0 0, .slice none 0 0, .map none, .int .u64 0, .int .i64 0, .int .u64 0, .int .u64 0, .bool false, .int .u64 0, .int .u64 0, .int .u64 0, .int .u64 0, .int .u64 0, .float .f64 0, .float .f64 0,
  .int .u64 0, .float .f64 0, .float .f64 0, .float .f64 0, .float .f64 0, .int .i64 0, .float .f64 0, .float .f64 0, .float .f64 0, .float .f64 0, .float .f64 0, .float .f64 0, .float .f64 0, .float .f64 0, .float .f64 0, .float .f64 0, .float .f64 0, .float .f64 0, .int .i64 0, .int .i64 0, .float .f64 0, .float .f64 0, .float .f64 0,
  .slice none 0 0, .int .u64 0, .float .f64 0, .int .u64 0, .slice none 0 0, .int .u64 0, .float .f64 0, .int .u64 0]
def talF (act : Int) : Nat → Value := fun t => (talC act).getD t (.int .u64 0)

def zb : List Value := [.int .u64 0, .float .f64 0, .float .f64 0, .float .f64 0, .float .f64 0, .int .i64 0, .float .f64 0, .float .f64 0, .float .f64 0, .float .f64 0, .float .f64 0, .float .f64 0, .float .f64 0, .float .f64 0, .float .f64 0, .float .f64 0, .float .f64 0, .float .f64 0, .int .i64 0, .int .i64 0, .float .f64 0, .float .f64 0, .float .f64 0]

theorem holds_sub {w : World} {b off n : Nat} {F : Nat → Value} (h : Holds w b 0 n F) (k : Nat) (hk : off + k ≤ n) : Holds w b off k (fun t => F (off + t)) := by
  intro t ht
  have := h (off + t) (by omega)
  rwa [Nat.zero_add] at this

theorem holds_mid {w : World} {b n off k : Nat} {F : Nat → Value} (h : Holds w b 0 n F) (vs : List Value) (G : Nat → Value) (hv : vs.length = k) (hk : off + k ≤ n) (hG : ∀ j, j < k → vs[j]? = some (G (off + j))) (hO : ∀ j, j < n → (j < off ∨ off + k ≤ j) → G j = F j) :
    Holds (w.setCells b off vs) b 0 n G := by
  intro t ht
  rw [Nat.zero_add]
  refine ⟨?_, ?_⟩
  · by_cases c : t < off ∨ off + k ≤ t
    · rw [World.cell?_setCells_out b vs off w ⟨b, t, none⟩ (fun _ h => by show t < off ∨ off + vs.length ≤ t; omega)]
      have := h.cell t ht
      rw [Nat.zero_add] at this
      rw [this, hO t ht c]
    · have hs := World.rangeAt_setCells_same w b off vs (by rw [hv]; exact holds_there (holds_sub h k hk)) (t - off) (G t) (by rw [hG (t - off) (by omega)]; congr 2; omega)
      rwa [show off + (t - off) = t by omega] at hs
  · rw [World.frozen?_setCells]
    have := h.free t ht
    rwa [Nat.zero_add] at this

theorem talF_zb (act : Int) : ∀ j, j < 23 → zb[j]? = some (talF act (20 + j)) := by
  intro j hj
  unfold talF
  rcases (show j = 0 ∨ j = 1 ∨ j = 2 ∨ j = 3 ∨ j = 4 ∨ j = 5 ∨ j = 6 ∨ j = 7 ∨ j = 8 ∨ j = 9 ∨ j = 10 ∨ j = 11 ∨ j = 12 ∨ j = 13 ∨ j = 14 ∨ j = 15 ∨ j = 16 ∨ j = 17 ∨ j = 18 ∨ j = 19 ∨ j = 20 ∨ j = 21 ∨ j = 22 by omega) with rfl | rfl | rfl | rfl | rfl | rfl | rfl | rfl | rfl | rfl | rfl | rfl | rfl | rfl | rfl | rfl | rfl | rfl | rfl | rfl | rfl | rfl | rfl <;> rfl

set_option maxRecDepth 100000 in
set_option maxHeartbeats 1600000 in
theorem newT_any (act : Int) (w : World) :
    Calls Try.prog 14 #[.int .i64 act, zc] w fun e w' => ∃ T, e = .returned (.pointer (some ⟨T, 0, none⟩)) ∧ w.heap.size ≤ T ∧ Below w.heap.size w w' ∧ Holds w' T 0 51 (talF act) := by
  unfold zc
  go_enter Try.func14, Try.ntmps14
  go_upto_region 5 with fail
  obtain ⟨wA, hwA⟩ : ∃ wA, wA = (w.alloc (.cells #[.int .u64 0, .int .u64 0, .int .u64 0, .int .u64 0, .float .f64 0, .float .f64 0, .float .f64 0, .float .f64 0, .int .i64 0, .float .f64 0, .float .f64 0, .float .f64 0, .float .f64 0, .float .f64 0, .float .f64 0, .float .f64 0, .float .f64 0, .float .f64 0, .float .f64 0, .float .f64 0, .float .f64 0, .int .i64 0, .int .i64 0, .float .f64 0, .float .f64 0, .float .f64 0] 45)).alloc (.cells (talC act) 74) := ⟨_, rfl⟩
  have HT : Hid (Holds wA (w.heap.size + 1) 0 51 (talF act)) := by
    rw [hwA]
    have := holds_new (w.alloc (.cells #[.int .u64 0, .int .u64 0, .int .u64 0, .int .u64 0, .float .f64 0, .float .f64 0, .float .f64 0, .float .f64 0, .int .i64 0, .float .f64 0, .float .f64 0, .float .f64 0, .float .f64 0, .float .f64 0, .float .f64 0, .float .f64 0, .float .f64 0, .float .f64 0, .float .f64 0, .float .f64 0, .float .f64 0, .int .i64 0, .int .i64 0, .float .f64 0, .float .f64 0, .float .f64 0] 45)) (talC act) 74 (talF act) (fun i hi => by unfold talF; simp [Array.getD, hi])
    rw [World.size_alloc] at this
    exact this
  have HR : Hid (wA.rangeAt w.heap.size 3 zb) := by
    rw [hwA]
    refine World.rangeAt_alloc ?_ _
    intro j v hj
    rw [World.cell?_alloc_new]
    have hlt : j < 23 := (List.getElem?_eq_some_iff.1 hj).1
    rcases (show j = 0 ∨ j = 1 ∨ j = 2 ∨ j = 3 ∨ j = 4 ∨ j = 5 ∨ j = 6 ∨ j = 7 ∨ j = 8 ∨ j = 9 ∨ j = 10 ∨ j = 11 ∨ j = 12 ∨ j = 13 ∨ j = 14 ∨ j = 15 ∨ j = 16 ∨ j = 17 ∨ j = 18 ∨ j = 19 ∨ j = 20 ∨ j = 21 ∨ j = 22 by omega) with rfl | rfl | rfl | rfl | rfl | rfl | rfl | rfl | rfl | rfl | rfl | rfl | rfl | rfl | rfl | rfl | rfl | rfl | rfl | rfl | rfl | rfl | rfl <;> exact hj
  have HB : Hid (Below w.heap.size w wA) := by rw [hwA]; exact ((Below.refl _ _).alloc (Nat.le_refl _) _).alloc (by simp) _
  have hS : wA.heap.size = w.heap.size + 2 := by rw [hwA]; simp
  have HS := hid hS
  clear hS
  unfold talC at hwA
  rw [← hwA]
  clear hwA
  iterate 8 (first | go_step | go_skip | go_upon)
  refine wp_load_mid 30 (.tmp 25) rfl w.heap.size 3 rfl [.int .u64 0, .float .f64 0, .float .f64 0, .float .f64 0, .float .f64 0, .int .i64 0, .float .f64 0, .float .f64 0, .float .f64 0, .float .f64 0, .float .f64 0, .float .f64 0, .float .f64 0, .float .f64 0, .float .f64 0, .float .f64 0, .float .f64 0, .float .f64 0, .int .i64 0, .int .i64 0, .float .f64 0, .float .f64 0, .float .f64 0] _ HR.out Try.underlying30 rfl (by kernel_rfl) ?_
  clear HR
  go_wp2_with fail
  refine (to_any 0 0 0 0 0 0 0 0 0 0 0 0 0 0 0 0 0 0 0 0 0 0 0 wA).mono ?_
  rintro e w1 ⟨rfl, hb1⟩
  have HT1 : Hid (Holds w1 (w.heap.size + 1) 0 51 (talF act)) := HT.out.below hb1 (by rw [HS.out]; omega)
  have HB1 : Hid (Below w.heap.size w w1) := HB.out.trans (hb1.mono HB.out.size)
  clear hb1 HT HB HS
  dsimp only
  iterate 8 (first | go_step | go_skip | go_upon)
  refine wp_store_mid 57 (.tmp 29) (.tmp 27) rfl (w.heap.size + 1) 20 (bm 0 0 0 0 0 0 0 0 0 0 0 0 0 0 0 0 0 0 0 0 0 0 0) rfl rfl (holds_there (holds_sub HT1.out 23 (by omega))) (by kernel_rfl) (bm_one 0 0 0 0 0 0 0 0 0 0 0 0 0 0 0 0 0 0 0 0 0 0 0) ?_
  have HT2 : Hid (Holds (w1.setCells (w.heap.size + 1) 20 (bm 0 0 0 0 0 0 0 0 0 0 0 0 0 0 0 0 0 0 0 0 0 0 0).toList) (w.heap.size + 1) 0 51 (talF act)) := holds_mid (k := 23) HT1.out _ _ rfl (by omega) (talF_zb act) (fun _ _ _ => rfl)
  have HB2 : Hid (Below w.heap.size w (w1.setCells (w.heap.size + 1) 20 (bm 0 0 0 0 0 0 0 0 0 0 0 0 0 0 0 0 0 0 0 0 0 0 0).toList)) := below_setCells _ (by omega) _ _ _ HB1.out
  obtain ⟨w2, hw2⟩ : ∃ w2, w2 = w1.setCells (w.heap.size + 1) 20 (bm 0 0 0 0 0 0 0 0 0 0 0 0 0 0 0 0 0 0 0 0 0 0 0).toList := ⟨_, rfl⟩
  rw [← hw2] at HT2 HB2 ⊢
  clear hw2 HT1 HB1
  go_wp2
  go_ret
  exact ⟨_, rfl, by omega, HB2.out, HT2.out⟩

end Go.Proofs.Qxb6600900a
