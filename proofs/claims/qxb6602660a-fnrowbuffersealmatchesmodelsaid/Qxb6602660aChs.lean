/-
  Slices of chunks, and 'zzCopyChunks_table_b1' (13).
-/
import Derived.Test.Qxb6602660aBy
import Derived.Deep.RegionHeld3
namespace Go.Proofs.Qxb6602660a
open Go.RowKit

/-- v is a slice of n chunks: their texts T, their sizes' lengths Y and bytes Z. -/
def Chs (w : World) (lo hi : Nat) (v : Value) (n : Nat) (T : Nat → ByteArray) (Y : Nat → Nat) (Z : Nat → Nat → Int) : Prop :=
  ∃ a cap, v = .slice a n cap ∧ (n = 0 ∨ ∃ b off, a = some ⟨b, off, none⟩ ∧ lo ≤ b ∧ b < hi ∧ ∀ i, i < n → w.cell? ⟨b, off + i * 2, none⟩ = some (.string (T i)) ∧ ∃ vi, w.cell? ⟨b, off + i * 2 + 1, none⟩ = some vi ∧ IsBy w lo hi vi (Y i) (Z i))

theorem Chs.agree {w w' : World} {lo hi : Nat} {v : Value} {n : Nat} {T : Nat → ByteArray} {Y : Nat → Nat} {Z : Nat → Nat → Int} (h : Chs w lo hi v n T Y Z) (hA : Agree lo hi w w') : Chs w' lo hi v n T Y Z := by
  obtain ⟨a, cap, rfl, h | ⟨b, off, rfl, h1, h2, h3⟩⟩ := h
  · exact ⟨a, cap, rfl, .inl h⟩
  · refine ⟨_, cap, rfl, .inr ⟨b, off, rfl, h1, h2, fun i hi => ?_⟩⟩
    obtain ⟨k1, vi, k2, k3⟩ := h3 i hi
    exact ⟨(hA.cell h1 h2).trans k1, vi, (hA.cell h1 h2).trans k2, k3.agree hA⟩

/-- The first k chunks are copied; the rest are zero. -/
def chF (T : Nat → ByteArray) (V : Nat → Value) (k : Nat) : Nat → Value := fun t => if t / 2 < k then (if t % 2 = 0 then .string (T (t / 2)) else V (t / 2)) else (if t % 2 = 0 then .string ByteArray.empty else .slice none 0 0)

theorem Try.info43 : (Try.prog.info? 43).map (fun i => (i.zero, i.size, i.bytes)) = some (some (.agg #[.string ByteArray.empty, .slice none 0 0]), 2, 40) := by kernel_rfl

theorem ch_start (w : World) (T : Nat → ByteArray) (V : Nat → Value) (n : Nat) : Holds (w.alloc (.cells (madeCells #[.string ByteArray.empty, .slice none 0 0] (n * 2)) 43)) w.heap.size 0 (n * 2) (chF T V 0) := by
  have := holds_new w (madeCells #[.string ByteArray.empty, .slice none 0 0] (n * 2)) 43 (chF T V 0) (by
    intro i hi
    have hi' : i < n * 2 := by simpa [madeCells] using hi
    simp [madeCells, hi']
    unfold chF
    rw [if_neg (by omega)]
    rcases (show i % 2 = 0 ∨ i % 2 = 1 by omega) with h | h <;> simp [h])
  have hs : (madeCells #[.string ByteArray.empty, .slice none 0 0] (n * 2)).size = n * 2 := by simp [madeCells]
  rw [hs] at this
  exact this

theorem ch_step {w : World} {b n : Nat} {T : Nat → ByteArray} {V : Nat → Value} {k : Nat} (h : Holds w b 0 (n * 2) (chF T V k)) (hk : k < n) (v : Value) :
    Holds ((w.setCell ⟨b, k * 2, none⟩ (.string (T k))).setCell ⟨b, k * 2 + 1, none⟩ v) b 0 (n * 2) (chF T (fun t => if t = k then v else V t) (k + 1)) := by
  have := (h.set (k * 2) (by omega) (.string (T k))).set (k * 2 + 1) (by omega) v
  simp only [Nat.zero_add] at this
  refine this.congr fun t ht => ?_
  unfold upd chF
  dsimp only
  by_cases e1 : t = k * 2 + 1
  · subst e1
    rw [if_pos rfl, if_pos (by omega), if_neg (by omega), if_pos (by omega)]
  · rw [if_neg e1]
    by_cases e0 : t = k * 2
    · subst e0
      rw [if_pos rfl, if_pos (by omega), if_pos (by omega), show k * 2 / 2 = k by omega]
    · rw [if_neg e0]
      by_cases c : t / 2 < k
      · rw [if_pos c, if_pos (show t / 2 < k + 1 by omega), if_neg (show ¬ t / 2 = k by omega)]
      · rw [if_neg c, if_neg (show ¬ t / 2 < k + 1 by omega)]

/-- Behind k chunks. -/
def CpI (w : World) (n : Nat) (T : Nat → ByteArray) (Y : Nat → Nat) (Z : Nat → Nat → Int) (k : Nat) (wr : World) : Prop :=
  ∃ V : Nat → Value, Holds wr w.heap.size 0 (n * 2) (chF T V k) ∧ (∀ i, i < k → IsBy wr (w.heap.size + 1) wr.heap.size (V i) (Y i) (Z i)) ∧ Below w.heap.size w wr ∧ w.heap.size < wr.heap.size

theorem cp_drew {w wr : World} {n : Nat} {T : Nat → ByteArray} {Y : Nat → Nat} {Z : Nat → Nat → Int} {k : Nat} (h : CpI w n T Y Z k wr) : CpI w n T Y Z k wr.drew := by
  obtain ⟨V, h1, h2, h3, h4⟩ := h
  exact ⟨V, h1, fun i hi => (h2 i hi).agree (fun _ _ _ => rfl), h3.drew, h4⟩

theorem cp_next {w wr w2 : World} {n : Nat} {T : Nat → ByteArray} {Y : Nat → Nat} {Z : Nat → Nat → Int} {k : Nat} {v : Value} (h : CpI w n T Y Z k wr) (hk : k < n) (hB : Below wr.heap.size wr w2) (hv : OwnBy w2 wr.heap.size w2.heap.size v (Y k) (Z k)) :
    CpI w n T Y Z (k + 1) ((w2.setCell ⟨w.heap.size, k * 2, none⟩ (.string (T k))).setCell ⟨w.heap.size, k * 2 + 1, none⟩ v) := by
  obtain ⟨V, h1, h2, h3, h4⟩ := h
  have hs := hB.size
  have hsz : ((w2.setCell ⟨w.heap.size, k * 2, none⟩ (.string (T k))).setCell ⟨w.heap.size, k * 2 + 1, none⟩ v).heap.size = w2.heap.size := by simp [World.setCell]
  have hAg : ∀ hi, Agree (w.heap.size + 1) hi w2 ((w2.setCell ⟨w.heap.size, k * 2, none⟩ (.string (T k))).setCell ⟨w.heap.size, k * 2 + 1, none⟩ v) := by
    intro hi q hq _
    rw [Below.heap_setCell _ _ _ _ (by show q ≠ w.heap.size; omega), Below.heap_setCell _ _ _ _ (by show q ≠ w.heap.size; omega)]
  refine ⟨_, ch_step (h1.below hB h4) hk v, fun i hi => ?_, ((h3.trans (hB.mono h3.size)).setCell (by show _ ≤ w.heap.size; omega) _).setCell (by show _ ≤ w.heap.size; omega) _, by rw [hsz]; omega⟩
  rw [hsz]
  by_cases e : i = k
  · subst e
    simp only [if_true]
    exact (hv.by.wide (by omega) (Nat.le_refl _)).agree (hAg _)
  · simp only [e, if_false]
    exact (((h2 i (by omega)).agree (Agree.of_below hB (Nat.le_refl _))).wide (Nat.le_refl _) hs).agree (hAg _)

set_option maxRecDepth 100000 in
set_option maxHeartbeats 1600000 in
theorem copyChs_some (b off n cap : Nat) (T : Nat → ByteArray) (Y : Nat → Nat) (Z : Nat → Nat → Int) (w : World) (hn : n ≤ 65536) (hY : ∀ i, i < n → Y i ≤ 1048576) (hbw : b < w.heap.size)
    (hc : ∀ i, i < n → w.cell? ⟨b, off + i * 2, none⟩ = some (.string (T i)) ∧ ∃ vi, w.cell? ⟨b, off + i * 2 + 1, none⟩ = some vi ∧ IsBy w 0 w.heap.size vi (Y i) (Z i)) :
    Calls Try.prog 13 #[.slice (some ⟨b, off, none⟩) n cap] w fun e w' => e = .returned (.slice (some ⟨w.heap.size, 0, none⟩) n n) ∧ CpI w n T Y Z n w' := by
  have hnn := fun w => Lib.run_eql_slice_nil (P := Try.prog) w 25 43 (some ⟨b, off, none⟩) n cap 0 0 Try.underlying25
  obtain ⟨i43, hi43, hz0, hz1, hz2⟩ := info_parts Try.info43
  have hmk : ∀ w, (Instr.makeSlice 25 (.int .i64 (n : Int)) (.int .i64 (n : Int))).run Try.prog w = .ok (.slice (some ⟨w.heap.size, 0, none⟩) n n) (w.alloc (.cells (madeCells #[.string ByteArray.empty, .slice none 0 0] (n * 2)) 43)) := fun w => by
    have := run_make (P := Try.prog) w 25 43 i43 _ Try.underlying25 hi43 hz0 .i64 .i64 (n : Int) (n : Int) (by omega) (by omega) (by rw [hz2]; omega) (by omega)
    simpa [hz1, Value.cells] using this
  have HC := hid hc
  have HY := hid hY
  clear hc hY hz0 hz1 hz2 hi43
  go_enter Try.func13, Try.ntmps13
  go_wp2
  clear hmk hnn
  have H0 : Hid (CpI w n T Y Z 0 (w.alloc (.cells (madeCells #[.string ByteArray.empty, .slice none 0 0] (n * 2)) 43))) := ⟨fun _ => .slice none 0 0, ch_start w T _ n, fun i hi => absurd hi (Nat.not_lt_zero _), (Below.refl _ _).alloc (Nat.le_refl _) _, by simp⟩
  go_loopw [4] (fun i wr => ∃ k : Nat, k ≤ n ∧ i = .int .i64 k ∧ Hid (CpI w n T Y Z k wr)) (fun i _ => n - (intOf i).toNat)
  case atStart => exact ⟨0, Nat.zero_le _, rfl, H0⟩
  case round =>
    clear H0
    obtain ⟨k, hk, rfl, HI⟩ := hrel
    by_cases hlt : k < n
    · obtain ⟨V, h1, h2, h3, h4⟩ := HI.out
      obtain ⟨k1, vi, k2, k3⟩ := HC.out k hlt
      have k3' := k3.agree (Agree.of_below h3 (Nat.le_refl _))
      have g0 : wr.cell? ⟨b, off + k * 2, none⟩ = some (.string (T k)) := (h3.cell (p := ⟨b, off + k * 2, none⟩) hbw).trans k1
      have g1 : wr.cell? ⟨b, off + k * 2 + 1, none⟩ = some vi := (h3.cell (p := ⟨b, off + k * 2 + 1, none⟩) hbw).trans k2
      have HV : Hid (IsBy wr.drew 0 w.heap.size vi (Y k) (Z k)) := k3'.agree (fun _ _ _ => rfl)
      obtain ⟨va, vc, rfl, _⟩ := k3
      have p0 := h1.cell (k * 2) (by omega)
      have p1 := h1.cell (k * 2 + 1) (by omega)
      have f0 := h1.free (k * 2) (by omega)
      have f1 := h1.free (k * 2 + 1) (by omega)
      rw [Nat.zero_add] at p0 p1 f0 f1
      have hyk := HY.out k hlt
      have i1 : (0 : Int) ≤ (k : Int) := by omega
      have i2 : (k : Int) < (n : Int) := by omega
      have hwr : w.heap.size < wr.heap.size := h4
      have hne : b ≠ w.heap.size := by omega
      have hne' : w.heap.size ≠ b := by omega
      have HSZ := hid h3.size
      clear h1 h2 h3 h4 k1 k2 k3'
      obtain ⟨tk, htk⟩ : ∃ tk, tk = T k := ⟨_, rfl⟩
      rw [← htk] at g0
      have HTK := hid htk
      clear htk
      go_wp2_with fail
      go_region_held3 (fun w' => w'.cell? ⟨b, off + k * 2, none⟩ = some (.string tk) ∧ w'.cell? ⟨b, off + k * 2 + 1, none⟩ = some (.slice va (Y k) vc))
        (first | exact ⟨g0, g1⟩ | exact ⟨(hB2.cell (p := ⟨b, off + k * 2, none⟩) (Nat.lt_of_lt_of_le hbw HSZ.out)).trans g0, (hB2.cell (p := ⟨b, off + k * 2 + 1, none⟩) (Nat.lt_of_lt_of_le hbw HSZ.out)).trans g1⟩ | go_keep)
        (first | (go_at_call 14; refine (copyBy_of hyk HV.out).mono ?_; rintro e w2 ⟨v', rfl, ⟨a', rfl, hO2⟩, hB2⟩; have x0 := (hB2.cell (p := ⟨w.heap.size, k * 2, none⟩) hwr).trans p0; have x1 := (hB2.cell (p := ⟨w.heap.size, k * 2 + 1, none⟩) hwr).trans p1; have y0 := (hB2.frozen (p := ⟨w.heap.size, k * 2, none⟩) hwr).trans f0; have y1 := (hB2.frozen (p := ⟨w.heap.size, k * 2 + 1, none⟩) hwr).trans f1))
      all_goals
        have HN := hid (cp_next (cp_drew HI.out) hlt hB2 ⟨a', rfl, hO2⟩)
        rw [← HTK.out] at HN
        go_wp2
        go_roundw
        case rel => exact ⟨k + 1, by omega, by go_num, HN⟩
        case measure => simp [intOf]; omega
    · have hkl : n = k := by omega
      subst hkl
      go_wp2
      go_ret
      exact ⟨rfl, HI.out⟩

end Go.Proofs.Qxb6602660a
