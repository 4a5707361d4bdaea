/-
  'table.ZZRowBufferFields' (19).
-/
import Derived.Test.Qxb6602660aSeal2
namespace Go.Proofs.Qxb6602660a
open Go.RowKit

theorem szF_step {w : World} {b n : Nat} {V : Nat → Value} {k : Nat} (h : Holds w b 0 n (szF V k)) (hk : k < n) {v : Value} (hv : v = V k) : Holds (w.setCell ⟨b, k, none⟩ v) b 0 n (szF V (k + 1)) := by
  have := h.set k hk v
  rw [Nat.zero_add] at this
  refine this.congr fun t ht => ?_
  unfold upd szF
  by_cases e : t = k
  · subst e; rw [if_pos rfl, if_pos (by omega), hv]
  · rw [if_neg e]
    by_cases c : t < k
    · rw [if_pos c, if_pos (by omega)]
    · rw [if_neg c, if_neg (by omega)]

theorem stF_step {w : World} {b n : Nat} {T : Nat → ByteArray} {k : Nat} (h : Holds w b 0 n (stF T k)) (hk : k < n) {s : ByteArray} (hs : s = T k) : Holds (w.setCell ⟨b, k, none⟩ (.string s)) b 0 n (stF T (k + 1)) := by
  have := h.set k hk (.string s)
  rw [Nat.zero_add] at this
  refine this.congr fun t ht => ?_
  unfold upd stF
  by_cases e : t = k
  · subst e; rw [if_pos rfl, if_pos (by omega), hs]
  · rw [if_neg e]
    by_cases c : t < k
    · rw [if_pos c, if_pos (by omega)]
    · rw [if_neg c, if_neg (by omega)]

/-- Behind k chunks. -/
def FdI (w : World) (n : Nat) (T : Nat → ByteArray) (V : Nat → Value) (k : Nat) (wr : World) : Prop :=
  Holds wr w.heap.size 0 n (stF T k) ∧ Holds wr (w.heap.size + 1) 0 n (szF V k) ∧ Below w.heap.size w wr ∧ w.heap.size + 1 < wr.heap.size

theorem fd_start (w : World) (n : Nat) (T : Nat → ByteArray) (V : Nat → Value) : FdI w n T V 0 ((w.alloc (.cells (madeCells #[.string ByteArray.empty] n) 9)).alloc (.cells (madeCells #[.slice none 0 0] n) 26)) := by
  have h2 := sz_start (w.alloc (.cells (madeCells #[.string ByteArray.empty] n) 9)) V n
  rw [World.size_alloc] at h2
  exact ⟨(st_start w T n).alloc _, h2, ((Below.refl _ _).alloc (Nat.le_refl _) _).alloc (by simp) _, by simp⟩

theorem fd_next {w wr : World} {n k : Nat} {T : Nat → ByteArray} {V : Nat → Value} {s : ByteArray} {v : Value} (h : FdI w n T V k wr) (hk : k < n) (hs : s = T k) (hv : v = V k) :
    FdI w n T V (k + 1) ((wr.setCell ⟨w.heap.size, k, none⟩ (.string s)).setCell ⟨w.heap.size + 1, k, none⟩ v) := by
  obtain ⟨h1, h2, h3, h4⟩ := h
  refine ⟨(stF_step h1 hk hs).other _ (by show w.heap.size + 1 ≠ _; omega) _, szF_step (h2.other _ (by show w.heap.size ≠ _; omega) _) hk hv, (h3.setCell (Nat.le_refl _) _).setCell (by show _ ≤ w.heap.size + 1; omega) _, ?_⟩
  simpa [World.setCell] using h4

theorem below_drewN {B : Nat} {w wr : World} (h : Below B w wr) (m : Nat) : Below B w (wr.drewN m) := ⟨h.os, h.tape, h.output, h.size, h.block⟩

theorem fd_drewN {w wr : World} {n k : Nat} {T : Nat → ByteArray} {V : Nat → Value} (h : FdI w n T V k wr) (m : Nat) : FdI w n T V k (wr.drewN m) := by
  obtain ⟨h1, h2, h3, h4⟩ := h
  exact ⟨h1, h2, below_drewN h3 m, h4⟩

set_option maxRecDepth 100000 in
set_option maxHeartbeats 1600000 in
theorem fields_some (P cb off n cc l1 c1 l2 c2 : Nat) (at_ as_ : Option Addr) (width rows last : Int) (T : Nat → ByteArray) (V : Nat → Value) (w : World) (hn : n ≤ 65537) (hcb : cb < w.heap.size)
    (hH : Holds w P 0 6 (rbF width (.slice (some ⟨cb, off, none⟩) n cc) (.slice at_ l1 c1) (.slice as_ l2 c2) rows last)) (hT : ∀ i, i < n → w.cell? ⟨cb, off + i * 2, none⟩ = some (.string (T i))) (hV : ∀ i, i < n → w.cell? ⟨cb, off + i * 2 + 1, none⟩ = some (V i)) (hVs : ∀ i, i < n → ∃ a l c, V i = .slice a l c) :
    Calls Try.prog 19 #[.pointer (some ⟨P, 0, none⟩)] w fun e w' => e = .returned (.tuple #[.int .i64 width, .slice (some ⟨w.heap.size, 0, none⟩) n n, .slice (some ⟨w.heap.size + 1, 0, none⟩) n n, .slice at_ l1 c1, .slice as_ l2 c2, .int .i64 rows, .int .i64 last]) ∧ FdI w n T V n w' := by
  obtain ⟨i9, hi9, hz0, hz1, hz2⟩ := info_parts Try.info9
  have hmk : ∀ w, (Instr.makeSlice 33 (.int .i64 (n : Int)) (.int .i64 (n : Int))).run Try.prog w = .ok (.slice (some ⟨w.heap.size, 0, none⟩) n n) (w.alloc (.cells (madeCells #[.string ByteArray.empty] n) 9)) := fun w => by
    have := run_make (P := Try.prog) w 33 9 i9 _ Try.underlying33 hi9 hz0 .i64 .i64 (n : Int) (n : Int) (by omega) (by omega) (by rw [hz2]; omega) (by omega)
    simpa [hz1, Value.cells] using this
  clear hz0 hz1 hz2 hi9
  obtain ⟨i26, hi26, hz0, hz1, hz2⟩ := info_parts Try.info26
  have hmk2 : ∀ w, (Instr.makeSlice 35 (.int .i64 (n : Int)) (.int .i64 (n : Int))).run Try.prog w = .ok (.slice (some ⟨w.heap.size, 0, none⟩) n n) (w.alloc (.cells (madeCells #[.slice none 0 0] n) 26)) := fun w => by
    have := run_make (P := Try.prog) w 35 26 i26 _ Try.underlying35 hi26 hz0 .i64 .i64 (n : Int) (n : Int) (by omega) (by omega) (by rw [hz2]; omega) (by omega)
    simpa [hz1, Value.cells] using this
  clear hz0 hz1 hz2 hi26
  have hPw : P < w.heap.size := hH.lt (by omega)
  have p0 : w.cell? ⟨P, 0, none⟩ = some (.int .i64 width) := hH.cell 0 (by omega)
  have p1 : w.cell? ⟨P, 1, none⟩ = some (.slice (some ⟨cb, off, none⟩) n cc) := hH.cell 1 (by omega)
  have p2 : w.cell? ⟨P, 2, none⟩ = some (.slice at_ l1 c1) := hH.cell 2 (by omega)
  have p3 : w.cell? ⟨P, 3, none⟩ = some (.slice as_ l2 c2) := hH.cell 3 (by omega)
  have p4 : w.cell? ⟨P, 4, none⟩ = some (.int .i64 rows) := hH.cell 4 (by omega)
  have p5 : w.cell? ⟨P, 5, none⟩ = some (.int .i64 last) := hH.cell 5 (by omega)
  have HT := hid hT
  have HV := hid hV
  have HVS := hid hVs
  clear hH hT hV hVs
  go_enter Try.func19, Try.ntmps19
  go_wp2
  clear hmk hmk2
  go_loopw [9] (fun i wr => ∃ k : Nat, k ≤ n ∧ i = .int .i64 k ∧ Hid (FdI w n T V k wr)) (fun i _ => n - (intOf i).toNat)
  case atStart => exact ⟨0, Nat.zero_le _, rfl, fd_start w n T V⟩
  case round =>
    obtain ⟨k, hk, rfl, HI⟩ := hrel
    obtain ⟨h1, h2, h3, h4⟩ := HI.out
    have q0 := (h3.cell (p := ⟨P, 0, none⟩) hPw).trans p0
    have q1 := (h3.cell (p := ⟨P, 1, none⟩) hPw).trans p1
    have q2 := (h3.cell (p := ⟨P, 2, none⟩) hPw).trans p2
    have q3 := (h3.cell (p := ⟨P, 3, none⟩) hPw).trans p3
    have q4 := (h3.cell (p := ⟨P, 4, none⟩) hPw).trans p4
    have q5 := (h3.cell (p := ⟨P, 5, none⟩) hPw).trans p5
    by_cases hlt : k < n
    · obtain ⟨tk, htk⟩ : ∃ tk, tk = T k := ⟨_, rfl⟩
      obtain ⟨va, vl, vc, hvk⟩ := HVS.out k hlt
      have g0 : wr.cell? ⟨cb, off + k * 2, none⟩ = some (.string tk) := by rw [htk]; exact (h3.cell (p := ⟨cb, off + k * 2, none⟩) hcb).trans (HT.out k hlt)
      have g1 : wr.cell? ⟨cb, off + k * 2 + 1, none⟩ = some (.slice va vl vc) := by rw [← hvk]; exact (h3.cell (p := ⟨cb, off + k * 2 + 1, none⟩) hcb).trans (HV.out k hlt)
      have s0 := h1.cell k hlt
      have z0 := h1.free k hlt
      have s1 := h2.cell k hlt
      have z1 := h2.free k hlt
      rw [Nat.zero_add] at s0 z0 s1 z1
      have HN := hid (fd_next HI.out hlt htk hvk.symm)
      have n1 : P ≠ w.heap.size := by omega
      have n2 : w.heap.size ≠ P := by omega
      have n3 : cb ≠ w.heap.size := by omega
      have n4 : w.heap.size ≠ cb := by omega
      clear h1 h2 h3 h4 htk hvk p0 p1 p2 p3 p4 p5 q0 q2 q3 q4 q5
      go_wp2
      go_roundw
      case rel => exact ⟨k + 1, by omega, by go_num, HN⟩
      case measure => simp [intOf]; omega
    · have hkl : n = k := by omega
      subst hkl
      clear h1 h2 h3 h4 p0 p1 p2 p3 p4 p5
      go_wp2_with fail
      go_quiet (fail)
      go_wp2
      exact bodyPost_ret (v := .tuple #[.int .i64 width, .slice (some ⟨w.heap.size, 0, none⟩) n n, .slice (some ⟨w.heap.size + 1, 0, none⟩) n n, .slice at_ l1 c1, .slice as_ l2 c2, .int .i64 rows, .int .i64 last]) (by simp [results, Try.results19, go_sem]) rfl ⟨rfl, fd_drewN HI.out nq⟩

end Go.Proofs.Qxb6602660a
