/-
  'table.ZZMakeRowBuffer' (15).
-/
import Derived.Test.Qxb6602660aSizes
namespace Go.Proofs.Qxb6602660a
open Go.RowKit

theorem Try.info46 : (Try.prog.info? 46).map (fun i => (i.zero, i.size, i.bytes)) = some (some (.agg #[.string ByteArray.empty, .slice none 0 0]), 2, 40) := by kernel_rfl

theorem ch_start46 (w : World) (T : Nat → ByteArray) (V : Nat → Value) (n : Nat) : Holds (w.alloc (.cells (madeCells #[.string ByteArray.empty, .slice none 0 0] (n * 2)) 46)) w.heap.size 0 (n * 2) (chF T V 0) := by
  have := holds_new w (madeCells #[.string ByteArray.empty, .slice none 0 0] (n * 2)) 46 (chF T V 0) (by
    intro i hi
    have hi' : i < n * 2 := by simpa [madeCells] using hi
    simp [madeCells, hi']
    unfold chF
    rw [if_neg (by omega)]
    rcases (show i % 2 = 0 ∨ i % 2 = 1 by omega) with h | h <;> simp [h])
  have hs : (madeCells #[.string ByteArray.empty, .slice none 0 0] (n * 2)).size = n * 2 := by simp [madeCells]
  rw [hs] at this
  exact this

/-- The six cells of a row buffer. -/
def rbF (width : Int) (cv tv sv : Value) (rows last : Int) : Nat → Value := fun t => if t = 0 then .int .i64 width else if t = 1 then cv else if t = 2 then tv else if t = 3 then sv else if t = 4 then .int .i64 rows else .int .i64 last

theorem rb_new (w : World) (width rows last : Int) (cv tv sv : Value) : Holds (w.alloc (.cells #[.int .i64 width, cv, tv, sv, .int .i64 rows, .int .i64 last] 48)) w.heap.size 0 6 (rbF width cv tv sv rows last) := by
  refine holds_new w #[.int .i64 width, cv, tv, sv, .int .i64 rows, .int .i64 last] 48 (rbF width cv tv sv rows last) (fun i hi => ?_)
  have hi' : i < 6 := hi
  rcases (show i = 0 ∨ i = 1 ∨ i = 2 ∨ i = 3 ∨ i = 4 ∨ i = 5 by omega) with rfl | rfl | rfl | rfl | rfl | rfl <;> simp [rbF]

set_option maxRecDepth 100000 in
set_option maxHeartbeats 1600000 in
theorem make_some (n bt bs ot os lt ls ct cs : Nat) (at_ as_ : Option Addr) (width rows last : Int) (T : Nat → ByteArray) (V : Nat → Value) (w : World) (h0 : 0 < n) (hn : n ≤ 65536) (hbt : bt < w.heap.size) (hbs : bs < w.heap.size)
    (hT : ∀ i, i < n → w.cell? ⟨bt, ot + i, none⟩ = some (.string (T i))) (hV : ∀ i, i < n → w.cell? ⟨bs, os + i, none⟩ = some (V i)) (hVs : ∀ i, i < n → ∃ a l c, V i = .slice a l c) :
    Calls Try.prog 15 #[.int .i64 width, .slice (some ⟨bt, ot, none⟩) n ct, .slice (some ⟨bs, os, none⟩) n cs, .slice at_ lt lt, .slice as_ ls ls, .int .i64 rows, .int .i64 last] w fun e w' =>
      ∃ P, e = .returned (.pointer (some ⟨P, 0, none⟩)) ∧ w.heap.size < P ∧ P < w'.heap.size ∧ Holds w' w.heap.size 0 (n * 2) (chF T V n) ∧ Holds w' P 0 6 (rbF width (.slice (some ⟨w.heap.size, 0, none⟩) n n) (.slice at_ lt lt) (.slice as_ ls ls) rows last) ∧ Below w.heap.size w w' := by
  obtain ⟨i46, hi46, hz0, hz1, hz2⟩ := info_parts Try.info46
  have hmk : ∀ w, (Instr.makeSlice 44 (.int .i64 (n : Int)) (.int .i64 (n : Int))).run Try.prog w = .ok (.slice (some ⟨w.heap.size, 0, none⟩) n n) (w.alloc (.cells (madeCells #[.string ByteArray.empty, .slice none 0 0] (n * 2)) 46)) := fun w => by
    have := run_make (P := Try.prog) w 44 46 i46 _ Try.underlying44 hi46 hz0 .i64 .i64 (n : Int) (n : Int) (by omega) (by omega) (by rw [hz2]; omega) (by omega)
    simpa [hz1, Value.cells] using this
  have HT := hid hT
  have HV := hid hV
  have HVS := hid hVs
  clear hT hV hVs hz0 hz1 hz2 hi46
  go_enter Try.func15, Try.ntmps15
  go_wp2
  clear hmk
  go_loopw [17] (fun i wr => ∃ k : Nat, k ≤ n ∧ i = .int .i64 k ∧ Hid (Holds wr w.heap.size 0 (n * 2) (chF T V k)) ∧ Hid (Below w.heap.size w wr)) (fun i _ => n - (intOf i).toNat)
  case atStart => exact ⟨0, Nat.zero_le _, rfl, ch_start46 w T V n, (Below.refl _ _).alloc (Nat.le_refl _) _⟩
  case round =>
    obtain ⟨k, hk, rfl, HH, HB⟩ := hrel
    by_cases hlt : k < n
    · obtain ⟨tk, htk⟩ : ∃ tk, tk = T k := ⟨_, rfl⟩
      obtain ⟨va, vl, vc, hvk⟩ := HVS.out k hlt
      have g0 : wr.cell? ⟨bt, ot + k, none⟩ = some (.string tk) := by rw [htk]; exact (HB.out.cell (p := ⟨bt, ot + k, none⟩) hbt).trans (HT.out k hlt)
      have g1 : wr.cell? ⟨bs, os + k, none⟩ = some (.slice va vl vc) := by rw [← hvk]; exact (HB.out.cell (p := ⟨bs, os + k, none⟩) hbs).trans (HV.out k hlt)
      have p0 := HH.out.cell (k * 2) (by omega)
      have p1 := HH.out.cell (k * 2 + 1) (by omega)
      have f0 := HH.out.free (k * 2) (by omega)
      have f1 := HH.out.free (k * 2 + 1) (by omega)
      rw [Nat.zero_add] at p0 p1 f0 f1
      have hN := ch_step HH.out hlt (.slice va vl vc)
      rw [← htk] at hN
      have HN := hid (hN.congr (G := chF T V (k + 1)) (fun t ht => by
        unfold chF
        dsimp only
        by_cases c : t / 2 < k + 1
        · rw [if_pos c, if_pos c]
          by_cases e : t / 2 = k
          · rw [if_pos e, e, hvk]
          · rw [if_neg e]
        · rw [if_neg c, if_neg c]))
      have HB' : Hid (Below w.heap.size w ((wr.setCell ⟨w.heap.size, k * 2, none⟩ (.string tk)).setCell ⟨w.heap.size, k * 2 + 1, none⟩ (.slice va vl vc))) := (HB.out.setCell (Nat.le_refl _) _).setCell (Nat.le_refl _) _
      have i1 : (0 : Int) ≤ (k : Int) := by omega
      have i2 : (k : Int) < (n : Int) := by omega
      have n1 : bt ≠ w.heap.size := by omega
      have n2 : w.heap.size ≠ bt := by omega
      have n3 : bs ≠ w.heap.size := by omega
      have n4 : w.heap.size ≠ bs := by omega
      clear htk hvk hN
      go_wp2_with fail
      go_region_held3 (fun w' => w'.cell? ⟨bt, ot + k, none⟩ = some (.string tk) ∧ w'.cell? ⟨bs, os + k, none⟩ = some (.slice va vl vc)) (go_keep) (fail)
      all_goals
        go_wp2
        go_roundw
        case rel => exact ⟨k + 1, by omega, by go_num, HN.out.drew, HB'.out.drew⟩
        case measure => simp [intOf]; omega
    · have hkl : n = k := by omega
      subst hkl
      have hs := HB.out.size
      have hsl := HH.out.lt (by omega)
      go_wp2
      go_ret
      exact ⟨wr.heap.size, rfl, hsl, by simp, HH.out.alloc _, rb_new wr _ _ _ _ _ _, HB.out.alloc hs _⟩

end Go.Proofs.Qxb6602660a
