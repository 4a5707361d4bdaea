/-
  'zzChunkTexts_table_b1' (16).
-/
import Derived.Test.Qxb6602660aChs2
namespace Go.Proofs.Qxb6602660a
open Go.RowKit

/-- v is a slice of n strings. -/
def Strs (w : World) (lo hi : Nat) (v : Value) (n : Nat) (T : Nat → ByteArray) : Prop :=
  ∃ a cap, v = .slice a n cap ∧ (n = 0 ∨ ∃ b off, a = some ⟨b, off, none⟩ ∧ lo ≤ b ∧ b < hi ∧ ∀ i, i < n → w.cell? ⟨b, off + i, none⟩ = some (.string (T i)))

/-- v is a slice of n byte slices. -/
def Bss (w : World) (lo hi : Nat) (v : Value) (n : Nat) (Y : Nat → Nat) (Z : Nat → Nat → Int) : Prop :=
  ∃ a cap, v = .slice a n cap ∧ (n = 0 ∨ ∃ b off, a = some ⟨b, off, none⟩ ∧ lo ≤ b ∧ b < hi ∧ ∀ i, i < n → ∃ vi, w.cell? ⟨b, off + i, none⟩ = some vi ∧ IsBy w lo hi vi (Y i) (Z i))

theorem Strs.agree {w w' : World} {lo hi : Nat} {v : Value} {n : Nat} {T : Nat → ByteArray} (h : Strs w lo hi v n T) (hA : Agree lo hi w w') : Strs w' lo hi v n T := by
  obtain ⟨a, cap, rfl, h | ⟨b, off, rfl, h1, h2, h3⟩⟩ := h
  · exact ⟨a, cap, rfl, .inl h⟩
  · exact ⟨_, cap, rfl, .inr ⟨b, off, rfl, h1, h2, fun i hi => (hA.cell h1 h2).trans (h3 i hi)⟩⟩

theorem Bss.agree {w w' : World} {lo hi : Nat} {v : Value} {n : Nat} {Y : Nat → Nat} {Z : Nat → Nat → Int} (h : Bss w lo hi v n Y Z) (hA : Agree lo hi w w') : Bss w' lo hi v n Y Z := by
  obtain ⟨a, cap, rfl, h | ⟨b, off, rfl, h1, h2, h3⟩⟩ := h
  · exact ⟨a, cap, rfl, .inl h⟩
  · refine ⟨_, cap, rfl, .inr ⟨b, off, rfl, h1, h2, fun i hi => ?_⟩⟩
    obtain ⟨vi, k1, k2⟩ := h3 i hi
    exact ⟨vi, (hA.cell h1 h2).trans k1, k2.agree hA⟩

theorem Try.info9 : (Try.prog.info? 9).map (fun i => (i.zero, i.size, i.bytes)) = some (some (.string ByteArray.empty), 1, 16) := by kernel_rfl

def stF (T : Nat → ByteArray) (k : Nat) : Nat → Value := fun t => .string (if t < k then T t else ByteArray.empty)

theorem st_start (w : World) (T : Nat → ByteArray) (n : Nat) : Holds (w.alloc (.cells (madeCells #[.string ByteArray.empty] n) 9)) w.heap.size 0 n (stF T 0) := by
  have := holds_new w (madeCells #[.string ByteArray.empty] n) 9 (stF T 0) (by
    intro i hi
    have hi' : i < n := by simpa [madeCells] using hi
    simp [madeCells, hi', stF, Nat.mod_one])
  have hs : (madeCells #[.string ByteArray.empty] n).size = n := by simp [madeCells]
  rw [hs] at this
  exact this

set_option maxHeartbeats 800000 in
theorem texts_some (b off n cap : Nat) (T : Nat → ByteArray) (w : World) (hn : n ≤ 65536) (hbw : b < w.heap.size) (hc : ∀ i, i < n → w.cell? ⟨b, off + i * 2, none⟩ = some (.string (T i))) :
    Calls Try.prog 16 #[.slice (some ⟨b, off, none⟩) n cap] w fun e w' => e = .returned (.slice (some ⟨w.heap.size, 0, none⟩) n n) ∧ Holds w' w.heap.size 0 n (fun t => .string (T t)) ∧ Below w.heap.size w w' ∧ w.heap.size < w'.heap.size := by
  obtain ⟨i9, hi9, hz0, hz1, hz2⟩ := info_parts Try.info9
  have hmk : ∀ w, (Instr.makeSlice 33 (.int .i64 (n : Int)) (.int .i64 (n : Int))).run Try.prog w = .ok (.slice (some ⟨w.heap.size, 0, none⟩) n n) (w.alloc (.cells (madeCells #[.string ByteArray.empty] n) 9)) := fun w => by
    have := run_make (P := Try.prog) w 33 9 i9 _ Try.underlying33 hi9 hz0 .i64 .i64 (n : Int) (n : Int) (by omega) (by omega) (by rw [hz2]; omega) (by omega)
    simpa [hz1, Value.cells] using this
  have HC := hid hc
  clear hc hz0 hz1 hz2 hi9
  go_enter Try.func16, Try.ntmps16
  go_wp2
  clear hmk
  go_loopw [4] (fun i wr => ∃ k : Nat, k ≤ n ∧ i = .int .i64 k ∧ Hid (Holds wr w.heap.size 0 n (stF T k)) ∧ Hid (Below w.heap.size w wr) ∧ Hid (w.heap.size < wr.heap.size)) (fun i _ => n - (intOf i).toNat)
  case atStart => exact ⟨0, Nat.zero_le _, rfl, st_start w T n, (Below.refl _ _).alloc (Nat.le_refl _) _, hid (by simp)⟩
  case round =>
    obtain ⟨k, hk, rfl, HH, HB, HS⟩ := hrel
    by_cases hlt : k < n
    · have g0 : wr.cell? ⟨b, off + k * 2, none⟩ = some (.string (T k)) := by
        rw [HB.out.cell (p := ⟨b, off + k * 2, none⟩) hbw]
        exact HC.out k hlt
      have q0 := HH.out.cell k hlt
      have z0 := HH.out.free k hlt
      rw [Nat.zero_add] at q0 z0
      have hn := hid ((HH.out.set k hlt (.string (T k))).congr (G := stF T (k + 1)) (fun t ht => by
        unfold upd stF
        by_cases e : t = k
        · subst e; simp
        · simp only [e, if_false]
          by_cases e2 : t < k
          · rw [if_pos e2, if_pos (by omega)]
          · rw [if_neg e2, if_neg (by omega)]))
      rw [Nat.zero_add] at hn
      obtain ⟨tk, htk⟩ : ∃ tk, tk = T k := ⟨_, rfl⟩
      rw [← htk] at g0 hn
      have HB' : Hid (Below w.heap.size w (wr.setCell ⟨w.heap.size, k, none⟩ (.string tk))) := HB.out.setCell (Nat.le_refl _) _
      have hS' : w.heap.size < (wr.setCell ⟨w.heap.size, k, none⟩ (.string tk)).heap.size := by
        have := HS.out
        simpa [World.setCell] using this
      have HS' := hid hS'
      clear htk hS'
      go_wp2
      go_roundw
      case rel => exact ⟨k + 1, by omega, rfl, hn, HB', HS'⟩
      case measure => simp [intOf]; omega
    · have hkl : n = k := by omega
      subst hkl
      have HX := hid (HH.out.congr (G := fun t => .string (T t)) (fun t ht => by unfold stF; rw [if_pos ht]))
      go_wp2
      go_ret
      exact ⟨rfl, HX.out, HB.out, HS.out⟩

set_option maxHeartbeats 800000 in
theorem texts_none (a : Option Addr) (cap : Nat) (w : World) :
    Calls Try.prog 16 #[.slice a 0 cap] w fun e w' => ∃ a', e = .returned (.slice a' 0 0) ∧ Below w.heap.size w w' := by
  obtain ⟨i9, hi9, hz0, hz1, hz2⟩ := info_parts Try.info9
  have hmk : ∀ w, (Instr.makeSlice 33 (.int .i64 0) (.int .i64 0)).run Try.prog w = .ok (.slice (some ⟨w.heap.size, 0, none⟩) 0 0) (w.alloc (.cells (madeCells #[.string ByteArray.empty] 0) 9)) := fun w => by
    have := run_make (P := Try.prog) w 33 9 i9 _ Try.underlying33 hi9 hz0 .i64 .i64 (0 : Int) (0 : Int) (by omega) (by omega) (by rw [hz2]; omega) (by omega)
    simpa [hz1, Value.cells] using this
  clear hz0 hz1 hz2 hi9
  go_enter Try.func16, Try.ntmps16
  go_wp2
  refine wp_loop_rounds 1 ?_
  rw [rounds_succ]
  go_wp2
  go_ret
  exact ⟨_, rfl, (Below.refl _ _).alloc (Nat.le_refl _) _⟩

theorem texts_of {w : World} {lo hi : Nat} {v : Value} {n : Nat} {T : Nat → ByteArray} {Y : Nat → Nat} {Z : Nat → Nat → Int} (hn : n ≤ 65536) (h : Chs w lo hi v n T Y Z) :
    Calls Try.prog 16 #[v] w fun e w' => ∃ a', e = .returned (.slice a' n n) ∧ Strs w' w.heap.size w'.heap.size (.slice a' n n) n T ∧ Below w.heap.size w w' := by
  obtain ⟨a, ca, rfl, h⟩ := h
  by_cases h0 : n = 0
  · subst h0
    refine (texts_none a ca w).mono ?_
    rintro e w' ⟨a', rfl, hB⟩
    exact ⟨a', rfl, ⟨_, _, rfl, .inl rfl⟩, hB⟩
  · rcases h with h | ⟨b, off, rfl, _, h2, h3⟩
    · exact absurd h h0
    · refine (texts_some b off n ca T w hn (World.block_lt_of_cell? w _ (h3 0 (by omega)).1) (fun i hi => (h3 i hi).1)).mono ?_
      rintro e w' ⟨rfl, hH, hB, hs⟩
      exact ⟨_, rfl, ⟨_, _, rfl, .inr ⟨w.heap.size, 0, rfl, Nat.le_refl _, hs, fun i hi => (hH i hi).1⟩⟩, hB⟩

end Go.Proofs.Qxb6602660a
