/-
  'zzChunkSizes_table_b1' (17).
-/
import Derived.Test.Qxb6602660aTexts
namespace Go.Proofs.Qxb6602660a
open Go.RowKit

theorem Try.info26 : (Try.prog.info? 26).map (fun i => (i.zero, i.size, i.bytes)) = some (some (.slice none 0 0), 1, 24) := by kernel_rfl

def szF (V : Nat → Value) (k : Nat) : Nat → Value := fun t => if t < k then V t else .slice none 0 0

theorem sz_start (w : World) (V : Nat → Value) (n : Nat) : Holds (w.alloc (.cells (madeCells #[.slice none 0 0] n) 26)) w.heap.size 0 n (szF V 0) := by
  have := holds_new w (madeCells #[.slice none 0 0] n) 26 (szF V 0) (by
    intro i hi
    have hi' : i < n := by simpa [madeCells] using hi
    simp [madeCells, hi', szF, Nat.mod_one])
  have hs : (madeCells #[.slice none 0 0] n).size = n := by simp [madeCells]
  rw [hs] at this
  exact this

/-- Behind k byte slices. -/
def SzI (w : World) (n : Nat) (Y : Nat → Nat) (Z : Nat → Nat → Int) (k : Nat) (wr : World) : Prop :=
  ∃ V : Nat → Value, Holds wr w.heap.size 0 n (szF V k) ∧ (∀ i, i < k → IsBy wr (w.heap.size + 1) wr.heap.size (V i) (Y i) (Z i)) ∧ Below w.heap.size w wr ∧ w.heap.size < wr.heap.size

theorem sz_next {w wr w2 : World} {n : Nat} {Y : Nat → Nat} {Z : Nat → Nat → Int} {k : Nat} {v : Value} (h : SzI w n Y Z k wr) (hk : k < n) (hB : Below wr.heap.size wr w2) (hv : OwnBy w2 wr.heap.size w2.heap.size v (Y k) (Z k)) :
    SzI w n Y Z (k + 1) (w2.setCell ⟨w.heap.size, k, none⟩ v) := by
  obtain ⟨V, h1, h2, h3, h4⟩ := h
  have hs := hB.size
  have hsz : (w2.setCell ⟨w.heap.size, k, none⟩ v).heap.size = w2.heap.size := by simp [World.setCell]
  have hAg : ∀ hi, Agree (w.heap.size + 1) hi w2 (w2.setCell ⟨w.heap.size, k, none⟩ v) := by
    intro hi q hq _
    rw [Below.heap_setCell _ _ _ _ (by show q ≠ w.heap.size; omega)]
  have hset := (h1.below hB h4).set k hk v
  rw [Nat.zero_add] at hset
  refine ⟨fun t => if t = k then v else V t, hset.congr (fun t ht => ?_), fun i hi => ?_, (h3.trans (hB.mono h3.size)).setCell (by show _ ≤ w.heap.size; omega) _, by rw [hsz]; omega⟩
  · unfold upd szF
    dsimp only
    by_cases e : t = k
    · subst e; rw [if_pos rfl, if_pos (by omega), if_pos rfl]
    · rw [if_neg e]
      by_cases c : t < k
      · rw [if_pos c, if_pos (by omega), if_neg e]
      · rw [if_neg c, if_neg (by omega)]
  · rw [hsz]
    by_cases e : i = k
    · subst e
      simp only [if_true]
      exact (hv.by.wide (by omega) (Nat.le_refl _)).agree (hAg _)
    · simp only [e, if_false]
      exact (((h2 i (by omega)).agree (Agree.of_below hB (Nat.le_refl _))).wide (Nat.le_refl _) hs).agree (hAg _)

set_option maxRecDepth 100000 in
set_option maxHeartbeats 1600000 in
theorem sizes_some (b off n cap : Nat) (Y : Nat → Nat) (Z : Nat → Nat → Int) (w : World) (hn : n ≤ 65536) (hY : ∀ i, i < n → Y i ≤ 1048576) (hbw : b < w.heap.size)
    (hc : ∀ i, i < n → ∃ vi, w.cell? ⟨b, off + i * 2 + 1, none⟩ = some vi ∧ IsBy w 0 w.heap.size vi (Y i) (Z i)) :
    Calls Try.prog 17 #[.slice (some ⟨b, off, none⟩) n cap] w fun e w' => e = .returned (.slice (some ⟨w.heap.size, 0, none⟩) n n) ∧ SzI w n Y Z n w' := by
  obtain ⟨i26, hi26, hz0, hz1, hz2⟩ := info_parts Try.info26
  have hmk : ∀ w, (Instr.makeSlice 35 (.int .i64 (n : Int)) (.int .i64 (n : Int))).run Try.prog w = .ok (.slice (some ⟨w.heap.size, 0, none⟩) n n) (w.alloc (.cells (madeCells #[.slice none 0 0] n) 26)) := fun w => by
    have := run_make (P := Try.prog) w 35 26 i26 _ Try.underlying35 hi26 hz0 .i64 .i64 (n : Int) (n : Int) (by omega) (by omega) (by rw [hz2]; omega) (by omega)
    simpa [hz1, Value.cells] using this
  have HC := hid hc
  have HY := hid hY
  clear hc hY hz0 hz1 hz2 hi26
  go_enter Try.func17, Try.ntmps17
  go_wp2
  clear hmk
  have H0 : Hid (SzI w n Y Z 0 (w.alloc (.cells (madeCells #[.slice none 0 0] n) 26))) := ⟨fun _ => .slice none 0 0, sz_start w _ n, fun i hi => absurd hi (Nat.not_lt_zero _), (Below.refl _ _).alloc (Nat.le_refl _) _, by simp⟩
  go_loopw [4] (fun i wr => ∃ k : Nat, k ≤ n ∧ i = .int .i64 k ∧ Hid (SzI w n Y Z k wr)) (fun i _ => n - (intOf i).toNat)
  case atStart => exact ⟨0, Nat.zero_le _, rfl, H0⟩
  case round =>
    clear H0
    obtain ⟨k, hk, rfl, HI⟩ := hrel
    by_cases hlt : k < n
    · obtain ⟨V, h1, h2, h3, h4⟩ := HI.out
      obtain ⟨vi, k2, k3⟩ := HC.out k hlt
      have k3' := k3.agree (Agree.of_below h3 (Nat.le_refl _))
      have g1 : wr.cell? ⟨b, off + k * 2 + 1, none⟩ = some vi := (h3.cell (p := ⟨b, off + k * 2 + 1, none⟩) hbw).trans k2
      have HV := hid k3'
      obtain ⟨va, vc, rfl, _⟩ := k3
      have p0 := h1.cell k hlt
      have f0 := h1.free k hlt
      rw [Nat.zero_add] at p0 f0
      have hyk := HY.out k hlt
      have hwr : w.heap.size < wr.heap.size := h4
      clear h1 h2 h3 h4 k2 k3'
      go_wp2_with (go_at_call 14; refine (copyBy_of hyk HV.out).mono ?_; rintro e w2 ⟨v', rfl, ⟨a', rfl, hO2⟩, hB2⟩; have x0 := (hB2.cell (p := ⟨w.heap.size, k, none⟩) hwr).trans p0; have y0 := (hB2.frozen (p := ⟨w.heap.size, k, none⟩) hwr).trans f0)
      have HN := hid (sz_next HI.out hlt hB2 ⟨a', rfl, hO2⟩)
      go_roundw
      case rel => exact ⟨k + 1, by omega, by go_num, HN⟩
      case measure => simp [intOf]; omega
    · have hkl : n = k := by omega
      subst hkl
      go_wp2
      go_ret
      exact ⟨rfl, HI.out⟩

set_option maxHeartbeats 800000 in
theorem sizes_none (a : Option Addr) (cap : Nat) (w : World) :
    Calls Try.prog 17 #[.slice a 0 cap] w fun e w' => ∃ a', e = .returned (.slice a' 0 0) ∧ Below w.heap.size w w' := by
  obtain ⟨i26, hi26, hz0, hz1, hz2⟩ := info_parts Try.info26
  have hmk : ∀ w, (Instr.makeSlice 35 (.int .i64 0) (.int .i64 0)).run Try.prog w = .ok (.slice (some ⟨w.heap.size, 0, none⟩) 0 0) (w.alloc (.cells (madeCells #[.slice none 0 0] 0) 26)) := fun w => by
    have := run_make (P := Try.prog) w 35 26 i26 _ Try.underlying35 hi26 hz0 .i64 .i64 (0 : Int) (0 : Int) (by omega) (by omega) (by rw [hz2]; omega) (by omega)
    simpa [hz1, Value.cells] using this
  clear hz0 hz1 hz2 hi26
  go_enter Try.func17, Try.ntmps17
  go_wp2
  refine wp_loop_rounds 1 ?_
  rw [rounds_succ]
  go_wp2
  go_ret
  exact ⟨_, rfl, (Below.refl _ _).alloc (Nat.le_refl _) _⟩

theorem sizes_of {w : World} {lo hi : Nat} {v : Value} {n : Nat} {T : Nat → ByteArray} {Y : Nat → Nat} {Z : Nat → Nat → Int} (hn : n ≤ 65536) (hY : ∀ i, i < n → Y i ≤ 1048576) (hhi : hi ≤ w.heap.size) (h : Chs w lo hi v n T Y Z) :
    Calls Try.prog 17 #[v] w fun e w' => ∃ a', e = .returned (.slice a' n n) ∧ Bss w' w.heap.size w'.heap.size (.slice a' n n) n Y Z ∧ Below w.heap.size w w' := by
  obtain ⟨a, ca, rfl, h⟩ := h
  by_cases h0 : n = 0
  · subst h0
    refine (sizes_none a ca w).mono ?_
    rintro e w' ⟨a', rfl, hB⟩
    exact ⟨a', rfl, ⟨_, _, rfl, .inl rfl⟩, hB⟩
  · rcases h with h | ⟨b, off, rfl, _, h2, h3⟩
    · exact absurd h h0
    · refine (sizes_some b off n ca Y Z w hn hY (World.block_lt_of_cell? w _ (h3 0 (by omega)).1) (fun i hi => ?_)).mono ?_
      · obtain ⟨_, vi, k2, k3⟩ := h3 i hi
        exact ⟨vi, k2, k3.wide (by omega) hhi⟩
      · rintro e w' ⟨rfl, V, hH, hV, hB, hs⟩
        refine ⟨_, rfl, ⟨_, _, rfl, .inr ⟨w.heap.size, 0, rfl, Nat.le_refl _, hs, fun i hi => ⟨V i, ?_, (hV i hi).wide (by omega) (Nat.le_refl _)⟩⟩⟩, hB⟩
        rw [hH.cell i hi]; unfold szF; rw [if_pos hi]

end Go.Proofs.Qxb6602660a
