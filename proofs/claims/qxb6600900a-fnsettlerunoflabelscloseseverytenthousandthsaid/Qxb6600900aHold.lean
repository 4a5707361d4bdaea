/-
  'ZZTallyHold' (function 15).
-/
import Derived.Test.Qxb6600900aNewT
namespace Go.Proofs.Qxb6600900a
open Go.RowKit

/-- The records of the actuators: the k first have their flag. -/
def actF (f : Nat → Bool) (k : Nat) : Nat → Value := fun t => if t % 3 = 0 then .int .u64 0 else if t % 3 = 1 then .bool false else if t / 3 < k then .bool (f (t / 3)) else .bool false

theorem Try.info76 : (Try.prog.info? 76).map (fun i => (i.zero, i.size, i.bytes)) = some (some (.agg #[.int .u64 0, .bool false, .bool false]), 3, 16) := by kernel_rfl
theorem Try.info89 : (Try.prog.info? 89).map (fun i => (i.zero, i.size, i.bytes)) = some (some (.agg #[.int .i64 0, .int .u64 0, .bool false, .int .u64 0, .int .u64 0, .bool false, .bool false, .int .i64 0]), 8, 56) := by kernel_rfl

theorem act_start (w : World) (f : Nat → Bool) (n : Nat) : Holds (w.alloc (.cells (madeCells #[.int .u64 0, .bool false, .bool false] (n * 3)) 76)) w.heap.size 0 (n * 3) (actF f 0) := by
  have := holds_new w (madeCells #[.int .u64 0, .bool false, .bool false] (n * 3)) 76 (actF f 0) (by
    intro i hi
    have hi' : i < n * 3 := by simpa [madeCells] using hi
    simp [madeCells, hi']
    unfold actF
    rcases (show i % 3 = 0 ∨ i % 3 = 1 ∨ i % 3 = 2 by omega) with h | h | h <;> simp [h])
  have hs : (madeCells #[.int .u64 0, .bool false, .bool false] (n * 3)).size = n * 3 := by simp [madeCells]
  rw [hs] at this
  exact this

theorem act_step {w : World} {b n : Nat} {f : Nat → Bool} {k : Nat} (h : Holds w b 0 (n * 3) (actF f k)) (hk : k < n) : Holds (w.setCell ⟨b, k * 3 + 2, none⟩ (.bool (f k))) b 0 (n * 3) (actF f (k + 1)) := by
  have := h.set (k * 3 + 2) (by omega) (.bool (f k))
  rw [Nat.zero_add] at this
  refine this.congr fun t ht => ?_
  unfold upd actF
  by_cases e : t = k * 3 + 2
  · subst e
    rw [if_pos rfl, if_neg (by omega), if_neg (by omega), if_pos (by omega), show (k * 3 + 2) / 3 = k by omega]
  · rw [if_neg e]
    by_cases e0 : t % 3 = 0
    · rw [if_pos e0, if_pos e0]
    · rw [if_neg e0, if_neg e0]
      by_cases e1 : t % 3 = 1
      · rw [if_pos e1, if_pos e1]
      · rw [if_neg e1, if_neg e1]
        by_cases e2 : t / 3 < k
        · rw [if_pos e2, if_pos (by omega)]
        · rw [if_neg e2, if_neg (by omega)]

/-- The tally holds a ledger of one label. -/
def held (F : Nat → Value) (act : Nat) (label : Int) (lb ab : Nat) : Nat → Value :=
  upd (upd (upd (upd (upd (upd F 1 (.int .i64 act)) 2 (.int .u64 label)) 3 (.int .i64 0)) 4 (.int .i64 1)) 5 (.slice (some ⟨lb, 0, none⟩) 1 1)) 6 (.slice (some ⟨ab, 0, none⟩) act act)

set_option maxRecDepth 100000 in
set_option maxHeartbeats 1600000 in
theorem hold_any (T fb act : Nat) (label : Int) (F : Nat → Value) (f : Nat → Bool) (w : World) (ha : act ≤ 65536) (hT : Holds w T 0 51 F) (hf : Holds w fb 0 act (fun i => .bool (f i))) (hfw : fb < w.heap.size) :
    Calls Try.prog 15 #[.pointer (some ⟨T, 0, none⟩), .int .u64 label, .slice (some ⟨fb, 0, none⟩) act act] w fun e w' => e = .returned (.tuple #[]) ∧ ∃ lb ab, Holds w' T 0 51 (held F act label lb ab) ∧ Holds w' ab 0 (act * 3) (actF f act) ∧ Kept T 0 51 w w' ∧ w.heap.size ≤ ab := by
  obtain ⟨i76, hi76, hz0, hz1, hz2⟩ := info_parts Try.info76
  have hmk : ∀ w, (Instr.makeSlice 62 (.int .i64 (act : Int)) (.int .i64 (act : Int))).run Try.prog w = .ok (.slice (some ⟨w.heap.size, 0, none⟩) act act) (w.alloc (.cells (madeCells #[.int .u64 0, .bool false, .bool false] (act * 3)) 76)) := fun w => by
    have := run_make (P := Try.prog) w 62 76 i76 _ Try.underlying62 hi76 hz0 .i64 .i64 (act : Int) (act : Int) (by omega) (by omega) (by rw [hz2]; omega) (by omega)
    simpa [hz1, Value.cells] using this
  obtain ⟨i89, hi89, hy0, hy1, hy2⟩ := info_parts Try.info89
  have hmk2 : ∀ w, (Instr.makeSlice 61 (.int .i64 1) (.int .i64 1)).run Try.prog w = .ok (.slice (some ⟨w.heap.size, 0, none⟩) 1 1) (w.alloc (.cells (madeCells #[.int .i64 0, .int .u64 0, .bool false, .int .u64 0, .int .u64 0, .bool false, .bool false, .int .i64 0] 8) 89)) := fun w => by
    have := run_make (P := Try.prog) w 61 89 i89 _ Try.underlying61 hi89 hy0 .i64 .i64 (1 : Int) (1 : Int) (by omega) (by omega) (by rw [hy2]; omega) (by omega)
    simpa [hy1, Value.cells] using this
  have hTw : T < w.heap.size := hT.lt (by omega)
  have HT := hid hT
  have HF := hid hf
  have HMK2 := hid hmk2
  clear hz0 hz1 hz2 hi76 hy0 hy1 hy2 hi89 hT hf hmk2
  go_enter Try.func15, Try.ntmps15
  go_wp2
  clear hmk
  go_loopw [7] (fun i wr => ∃ k : Nat, k ≤ act ∧ i = .int .i64 k ∧ Hid (Holds wr w.heap.size 0 (act * 3) (actF f k)) ∧ Hid (Below w.heap.size w wr)) (fun i _ => act - (intOf i).toNat)
  case atStart => exact ⟨0, Nat.zero_le _, rfl, act_start w f act, (Below.refl _ _).alloc (Nat.le_refl _) _⟩
  case round =>
    obtain ⟨k, hk, rfl, HH, HB⟩ := hrel
    by_cases hlt : k < act
    · have g0 : wr.cell? ⟨fb, k, none⟩ = some (.bool (f k)) := by
        rw [HB.out.cell (p := ⟨fb, k, none⟩) hfw]
        have := HF.out.cell k hlt
        rwa [Nat.zero_add] at this
      have q0 := HH.out.cell (k * 3 + 2) (by omega)
      have z0 := HH.out.free (k * 3 + 2) (by omega)
      rw [Nat.zero_add] at q0 z0
      have HN := hid (act_step HH.out hlt)
      have HB' : Hid (Below w.heap.size w (wr.setCell ⟨w.heap.size, k * 3 + 2, none⟩ (.bool (f k)))) := HB.out.setCell (Nat.le_refl _) _
      obtain ⟨fk, hfk⟩ : ∃ fk, fk = f k := ⟨_, rfl⟩
      rw [← hfk] at g0 HN HB'
      clear hfk
      go_wp2
      go_roundw
      case rel => exact ⟨k + 1, by omega, rfl, HN, HB'⟩
      case measure => simp [intOf]; omega
    · have hkl : k = act := by omega
      subst hkl
      have hmk2 := HMK2.out wr
      obtain ⟨wn, hwn⟩ : ∃ wn, wn = wr.alloc (.cells (madeCells #[.int .i64 0, .int .u64 0, .bool false, .int .u64 0, .int .u64 0, .bool false, .bool false, .int .i64 0] 8) 89) := ⟨_, rfl⟩
      rw [← hwn] at hmk2
      have hT' : Holds wn T 0 51 F := by rw [hwn]; exact (HT.out.below HB.out hTw).alloc _
      have HA : Hid (Holds wn w.heap.size 0 (k * 3) (actF f k)) := by rw [hwn]; exact HH.out.alloc _
      have HBn : Hid (Below w.heap.size w wn) := by rw [hwn]; exact HB.out.alloc HB.out.size _
      clear hwn HB HH
      have c1 := hT'.cell 1 (by omega)
      have c2 := hT'.cell 2 (by omega)
      have c3 := hT'.cell 3 (by omega)
      have c4 := hT'.cell 4 (by omega)
      have c5 := hT'.cell 5 (by omega)
      have c6 := hT'.cell 6 (by omega)
      have z1 := hT'.free 1 (by omega)
      have z2 := hT'.free 2 (by omega)
      have z3 := hT'.free 3 (by omega)
      have z4 := hT'.free 4 (by omega)
      have z5 := hT'.free 5 (by omega)
      have z6 := hT'.free 6 (by omega)
      rw [Nat.zero_add] at c1 c2 c3 c4 c5 c6 z1 z2 z3 z4 z5 z6
      have HT' := hid hT'
      clear hT' HT HF
      go_wp2
      clear c1 c2 c3 c4 c5 c6 z1 z2 z3 z4 z5 z6 hmk2
      go_end0
      have q0 : Kept T 0 51 w wn := ⟨HBn.out.os, HBn.out.tape, HBn.out.output, HBn.out.size, fun i hi _ => HBn.out.block i hi, fun i _ => HBn.out.cell (p := ⟨T, i, none⟩) hTw, fun i => HBn.out.frozen (p := ⟨T, i, none⟩) hTw⟩
      have hne : ∀ q, (⟨T, q, none⟩ : Addr).block ≠ w.heap.size := fun q => by show T ≠ _; omega
      have k6 := (((((HT'.out.set 1 (by omega) (.int .i64 k)).set 2 (by omega) (.int .u64 label)).set 3 (by omega) (.int .i64 0)).set 4 (by omega) (.int .i64 1)).set 5 (by omega) (.slice (some ⟨wr.heap.size, 0, none⟩) 1 1)).set 6 (by omega) (.slice (some ⟨w.heap.size, 0, none⟩) k k)
      have q6 := (((((q0.set 1 (by omega) (.int .i64 k)).set 2 (by omega) (.int .u64 label)).set 3 (by omega) (.int .i64 0)).set 4 (by omega) (.int .i64 1)).set 5 (by omega) (.slice (some ⟨wr.heap.size, 0, none⟩) 1 1)).set 6 (by omega) (.slice (some ⟨w.heap.size, 0, none⟩) k k)
      have a6 := (((((HA.out.other ⟨T, 1, none⟩ (hne 1) (.int .i64 k)).other ⟨T, 2, none⟩ (hne 2) (.int .u64 label)).other ⟨T, 3, none⟩ (hne 3) (.int .i64 0)).other ⟨T, 4, none⟩ (hne 4) (.int .i64 1)).other ⟨T, 5, none⟩ (hne 5) (.slice (some ⟨wr.heap.size, 0, none⟩) 1 1)).other ⟨T, 6, none⟩ (hne 6) (.slice (some ⟨w.heap.size, 0, none⟩) k k)
      simp only [Nat.zero_add] at k6 q6
      exact ⟨rfl, wr.heap.size, w.heap.size, k6, a6, q6, Nat.le_refl _⟩

end Go.Proofs.Qxb6600900a
