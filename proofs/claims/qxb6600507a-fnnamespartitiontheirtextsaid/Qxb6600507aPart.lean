import Derived.Test.Qxb6600507aName
import Derived.Test.Qxb6600507aRowLaws
import Derived.ProofKit
import Derived.OpenShut
import Derived.ShutString
import Derived.ChangeOld
import Derived.LoopN
import Derived.Deep.OwnRows
namespace Go.Proofs.Qxb6600507a
open Go.RowKit

def IsRow (k : IntKind) (w : World) (a : Option Addr) (len cap : Nat) (zs : List Int) : Prop :=
  (a = none ∧ len = 0 ∧ cap = 0 ∧ zs = []) ∨
  ∃ x, a = some x ∧ len ≤ cap ∧ cap ≤ maxLen ∧ zs.length = cap ∧ (∀ i, i < zs.length → w.cell? (x.add i) = some (.int k (zs.getD i 0))) ∧ ∀ n ∈ zs, (Lit.int k n).wf = true

/-- The end of the k-th name's forerunner: 0 ahead of the first. -/
def En (zs : List Int) : Nat → Int
  | 0 => 0
  | k + 1 => zs.getD k 0

/-- Up to k the ends never fall and stay within n. -/
def EOk (zs : List Int) (n k : Nat) : Prop := ∀ j, j < k → En zs j ≤ zs.getD j 0 ∧ zs.getD j 0 ≤ n

theorem EOk.step {zs : List Int} {n k : Nat} (h : EOk zs n k) (h1 : En zs k ≤ zs.getD k 0) (h2 : zs.getD k 0 ≤ n) : EOk zs n (k + 1) := by
  intro j hj
  by_cases e : j = k
  · subst e; exact ⟨h1, h2⟩
  · exact h j (by omega)

theorem EOk.nonneg {zs : List Int} {n k : Nat} (h : EOk zs n k) : ∀ j, j ≤ k → 0 ≤ En zs j
  | 0, _ => by simp [En]
  | j + 1, hj => by
    have := h.nonneg j (by omega)
    have := (h j (by omega)).1
    show 0 ≤ zs.getD j 0
    omega

theorem EOk.le {zs : List Int} {n k : Nat} (h : EOk zs n k) : ∀ j, j ≤ k → En zs j ≤ n
  | 0, _ => by simp [En]
  | j + 1, hj => (h j (by omega)).2

theorem take_extract (t : ByteArray) (lo hi : Nat) (h : lo ≤ hi) : t.data.toList.take lo ++ (t.extract lo hi).data.toList = t.data.toList.take hi := by
  rw [ByteArray.data_extract, Array.toList_extract, List.extract_eq_take_drop]
  rw [← List.take_add]
  congr 1; omega

theorem take_same (t : ByteArray) (lo : Nat) : (t.data.toList.take lo == (t.extract 0 lo).toList) = true := by
  rw [ByteArray.toList_eq, ByteArray.data_extract, Array.toList_extract, List.extract_eq_take_drop]; simp

set_option maxHeartbeats 1600000 in
theorem part_walk_some (t : ByteArray) (b off len cap : Nat) (zs : List Int) (w : World) (hlen : 0 < len) (hlc : len ≤ cap) (_hcap : cap ≤ maxLen) (hz : zs.length = cap)
    (hcell : ∀ j, j < zs.length → w.cell? ⟨b, off + j, none⟩ = some (.int .i32 (zs.getD j 0))) (hzb : ∀ j, zs.getD j 0 ≤ 2147483647) (ht : (t.size : Int) + 8 * (len : Int) ≤ 1048576) :
    Calls Try.prog 7 #[.string t, .slice (some ⟨b, off, none⟩) len cap] w fun e w' => e = .returned (.bool true) ∧ Below w.heap.size w w' := by
  unfold maxLen at _hcap
  have HC : Hid (∀ j, j < zs.length → w.cell? ⟨b, off + j, none⟩ = some (.int .i32 (zs.getD j 0))) := hcell
  have HZ : Hid (zs.length = cap) := hz
  have hbw : b < w.heap.size := World.block_lt_of_cell? w ⟨b, off + 0, none⟩ (hcell 0 (by omega))
  have HZB : Hid (∀ j, zs.getD j 0 ≤ 2147483647) := hzb
  clear hcell hz hzb
  have hnn := fun w => run_neq_slice_nil_any (P := Try.prog) w 29 21 (some ⟨b, off, none⟩) len cap 0 0 Try.underlying29
  go_enter Try.func7, Try.ntmps7
  go_wp2
  go_loop [5, 6] (fun p i => ∃ k : Nat, k ≤ len ∧ i = .int .i64 k ∧ p = .int .i32 (En zs k) ∧ Hid (EOk zs t.size k)) (fun _ i => len - (intOf i).toNat)
  case atStart => exact ⟨0, Nat.zero_le _, rfl, rfl, fun j hj => absurd hj (by omega)⟩
  case round =>
    obtain ⟨k, hk, rfl, rfl, hok⟩ := hrel
    have e0 := hok.out.nonneg k (Nat.le_refl _)
    have e1 := hok.out.le k (Nat.le_refl _)
    by_cases hlt : k < len
    · obtain ⟨z, hz⟩ : ∃ z, z = zs.getD k 0 := ⟨_, rfl⟩
      have hc : w.cell? ⟨b, off + k, none⟩ = some (.int .i32 z) := by rw [hz]; exact HC.out k (by rw [HZ.out]; omega)
      have hzk : z ≤ 2147483647 := by rw [hz]; exact HZB.out k
      have HZK : Hid (z = zs.getD k 0) := hz
      clear hz
      obtain ⟨p, hp⟩ : ∃ p, p = En zs k := ⟨_, rfl⟩
      rw [← hp] at e0 e1 ⊢
      have HP : Hid (p = En zs k) := hp
      clear hp
      by_cases h1 : z < p
      · go_wp2
        go_ret
        exact ⟨rfl, Below.refl _ _⟩
      · by_cases h2 : z ≤ t.size
        · go_wp2
          go_round
          case rel => exact ⟨k + 1, by omega, by go_num, by rw [HZK.out]; rfl, hok.out.step (by rw [← HP.out, ← HZK.out]; omega) (by rw [← HZK.out]; exact h2)⟩
          case measure => simp [intOf]; omega
        · go_wp2
          go_ret
          exact ⟨rfl, Below.refl _ _⟩
    · obtain rfl : len = k := by omega
      have HK : Hid (EOk zs t.size len) := hok
      clear hok
      obtain ⟨pl, hpl⟩ : ∃ pl : Nat, En zs len = (pl : Int) := ⟨(En zs len).toNat, by omega⟩
      rw [hpl] at e0 e1 ⊢
      have HPL : Hid (En zs len = (pl : Int)) := hpl
      clear hpl
      have hmk0 : ∀ w, (Instr.makeSlice 29 (.int .i64 (len : Int)) (.int .i64 (len : Int))).run Try.prog w = .ok (.slice (some ⟨w.heap.size, 0, none⟩) len len) (w.alloc (.cells (madeCells #[.int .i32 0] len) 21)) :=
        fun w => run_make_row' (P := Try.prog) 29 21 (.int .i32 0) 4 Try.underlying29 Try.info21 rfl .i64 .i64 len (by omega) (by omega) w
      obtain ⟨i5, hi5, hz50, hz51, hz52⟩ := info_parts Try.info5
      have hmk1 : ∀ w, (Instr.makeSlice 28 (.int .i64 0) (.int .i64 (t.size : Int))).run Try.prog w = .ok (.slice (some ⟨w.heap.size, 0, none⟩) 0 t.size) (w.alloc (.cells (madeCells #[.int .u8 0] t.size) 5)) := fun w => by
        have := run_make (P := Try.prog) w 28 5 i5 (.int .u8 0) Try.underlying28 hi5 hz50 .i64 .i64 0 (t.size : Int) (by omega) (by omega) (by rw [hz52]; omega) (by omega)
        simpa [hz51, Value.cells] using this
      obtain ⟨CS, hCS⟩ : ∃ CS : List Value, CS = (zs.take len).map (.int .i32) := ⟨_, rfl⟩
      have hcl : CS.length = len := by rw [hCS, List.length_map, List.length_take, HZ.out]; omega
      have hsz21 : (Try.prog.info? 21).map (·.size) = some 1 := by kernel_rfl
      have h1c : ∀ v ∈ CS, v.oneCell' = true := by rw [hCS]; exact ints_oneCell _ _
      have hB0 : Below w.heap.size w (w.alloc (.cells (madeCells #[.int .i32 0] len) 21)) := (Below.refl _ _).alloc (Nat.le_refl _) _
      have hsrc : ∀ j v, CS[j]? = some v → (w.alloc (.cells (madeCells #[.int .i32 0] len) 21)).cell? ((⟨b, off, none⟩ : Addr).add j) = some v := by
        intro j v hj
        have hjl : j < len := by have := (List.getElem?_eq_some_iff.1 hj).1; omega
        rw [Addr.add_lit, hB0.cell (p := ⟨b, off + j, none⟩) hbw, HC.out j (by rw [HZ.out]; omega)]
        rw [hCS] at hj
        rw [← hj]
        simp [hjl, show j < zs.length by rw [HZ.out]; omega]
      have hrow0 : (w.alloc (.cells (madeCells #[.int .i32 0] len) 21)).heap[w.heap.size]? = some (.cells (List.replicate len (.int .i32 0)).toArray 21 (0, 0)) := by
        rw [heap_alloc_new, ← toList_madeCells_one]
      have HCS : Hid (CS = (zs.take len).map (.int .i32)) := hCS
      have HB0 := (show Hid _ from hB0)
      have HSRC := (show Hid _ from hsrc)
      have HROW := (show Hid _ from hrow0)
      have H1C := (show Hid _ from h1c)
      have HCL := (show Hid _ from hcl)
      clear hCS hB0 hsrc hrow0 h1c hcl
      obtain ⟨w2, hcopy, hrow2, hB2, hsz2⟩ := copy_whole (P := Try.prog) (w.alloc (.cells (madeCells #[.int .i32 0] len) 21)) 29 29 3 21 w.heap.size len len ⟨b, off, none⟩ len cap (List.replicate len (.int .i32 0)) CS Try.underlying29 hsz21 HROW.out HCL.out (by simp) HSRC.out H1C.out w.heap.size w HB0.out (Nat.le_refl _)
      have HROW2 := (show Hid _ from hrow2)
      have HB2 := (show Hid _ from hB2)
      clear hrow2 hB2
      go_wp2
      clear hcopy hmk0 hmk1
      have HST : Hid ((w2.alloc (.cells (madeCells #[.int .u8 0] t.size) 5)).ownsRow (w.heap.size + 1) 5 1 (.slice (some ⟨w.heap.size + 1, 0, none⟩) 0 t.size) 0 (cells8 [])) := by
        have h2 : w2.heap.size = w.heap.size + 1 := by rw [hsz2]; simp
        have := World.ownsRow_made (base := w.heap.size + 1) (e := 5) (size := 1) w2 (madeCells #[.int .u8 0] t.size) t.size (by omega) (by unfold maxLen; omega) (by simp [madeCells])
        rw [h2] at this
        exact this
      have HRT : Hid ((w2.alloc (.cells (madeCells #[.int .u8 0] t.size) 5)).heap[w.heap.size]? = some (.cells CS.toArray 21 (0, 0))) := by
        show _ = _
        rw [Below.heap_alloc _ _ _ (by rw [hsz2]; simp)]; exact HROW2.out
      have HBT : Hid (Below w.heap.size w (w2.alloc (.cells (madeCells #[.int .u8 0] t.size) 5))) := HB2.out.alloc (by rw [hsz2]; simp) _
      clear hsz2
      go_loopw [9, 10] (fun v i wr => ∃ k lo : Nat, k ≤ len ∧ i = .int .i64 k ∧ v = .slice (some ⟨w.heap.size + 1, 0, none⟩) lo t.size ∧ Hid (En zs k = (lo : Int)) ∧ Hid (wr.ownsRow (w.heap.size + 1) 5 1 (.slice (some ⟨w.heap.size + 1, 0, none⟩) lo t.size) lo (cells8 (t.data.toList.take lo))) ∧ Hid (wr.heap[w.heap.size]? = some (.cells CS.toArray 21 (0, 0))) ∧ Hid (Below w.heap.size w wr)) (fun _ i _ => len - (intOf i).toNat)
      case atStart => exact ⟨0, 0, Nat.zero_le _, rfl, rfl, Eq.refl _, HST, HRT, HBT⟩
      case round =>
        clear HST HRT HBT HROW2 HB2 HROW HSRC HB0
        obtain ⟨k, lo, hk, rfl, rfl, HLO, HOW, HEN, HBE⟩ := hrel
        by_cases hlt : k < len
        · obtain ⟨hi, hhi⟩ : ∃ hi : Nat, zs.getD k 0 = (hi : Int) := ⟨(zs.getD k 0).toNat, by have h := HK.out.nonneg (k + 1) (by omega); have h' : 0 ≤ zs.getD k 0 := h; omega⟩
          have hlh : lo ≤ hi := by have := (HK.out k hlt).1; rw [HLO.out, hhi] at this; omega
          have hht : hi ≤ t.size := by have := (HK.out k hlt).2; rw [hhi] at this; omega
          have hck : wr.cell? ⟨w.heap.size, k, none⟩ = some (.int .i32 (hi : Int)) := by
            rw [cell_of_row wr _ _ _ _ _ HEN.out, HCS.out, ← hhi]; simp [hlt, show k < zs.length by rw [HZ.out]; omega]
          have hcl : 0 < k → wr.cell? ⟨w.heap.size, k - 1, none⟩ = some (.int .i32 (lo : Int)) := by
            intro hk0
            have hlo := HLO.out
            obtain ⟨q, rfl⟩ : ∃ q, k = q + 1 := ⟨k - 1, by omega⟩
            have hlo' : zs.getD q 0 = (lo : Int) := hlo
            rw [cell_of_row wr _ _ _ _ _ HEN.out, HCS.out, ← hlo']; simp [show q < len by omega, show q < zs.length by rw [HZ.out]; omega]
          have h0 : k = 0 → lo = 0 := by intro h; have := HLO.out; subst h; simp [En] at this; omega
          have HCK := (show Hid _ from hck)
          have HCP := (show Hid _ from hcl)
          have H0 := (show Hid _ from h0)
          clear hck hcl h0
          go_wp2_with fail
          refine (nameOf_at t w.heap.size len len k lo hi wr hlt (by omega) HCK.out HCP.out H0.out hlh hht).mono ?_
          rintro e w3 ⟨rfl, hb3⟩
          obtain ⟨s3, hs3⟩ : ∃ s3, s3 = t.extract lo hi := ⟨_, rfl⟩
          rw [← hs3]
          have hsa : lo + s3.size ≤ hi := by rw [hs3]; simp; omega
          have hsb : hi ≤ lo + s3.size := by rw [hs3]; simp; omega
          have HS3 : Hid (s3 = t.extract lo hi) := hs3
          have HB3 : Hid (Below wr.heap.size wr w3) := hb3
          have HO3 : Hid (w3.ownsRow (w.heap.size + 1) 5 1 (.slice (some ⟨w.heap.size + 1, 0, none⟩) lo t.size) lo (cells8 (t.data.toList.take lo))) := HOW.out.kept (below_grownBy hb3 none) (by simp [Value.ownBlock])
          have HE3 : Hid (w3.heap[w.heap.size]? = some (.cells CS.toArray 21 (0, 0))) := ((below_grownBy hb3 none).block w.heap.size (lt_of_row HEN.out) (by simp)).trans HEN.out
          have hc3 : Hid (w3.cell? ⟨w.heap.size, k, none⟩ = some (.int .i32 (hi : Int))) := (below_grownBy hb3 none).cell HCK.out (by simp)
          clear hs3 hb3
          go_wp2_with (at_builtin; refine wpList_append_str _ (by rfl) (.tmp 69) (.tmp 73) 28 9 (by rfl) (w.heap.size + 1) 5 i5 Try.underlying28 Try.underlying9 hi5 hz51 _ _ _ _ (by rfl) HO3.out _ (by rfl) (by omega) ?_; intro w4 HO4 HG4; have hc4 : w4.cell? ⟨w.heap.size, k, none⟩ = some (.int .i32 (hi : Int)) := HG4.out.cell hc3.out (by simp))
          go_roundw
          case rel => exact ⟨k + 1, lo + s3.size, by omega, by go_num, rfl, by show zs.getD k 0 = _; omega, by rw [show lo + s3.size = hi by omega] at HO4 ⊢; rw [HS3.out, take_extract t lo hi hlh] at HO4; exact HO4, by show _ = _; rw [HG4.out.block w.heap.size (lt_of_row HE3.out) (by simp)]; exact HE3.out, ((HBE.out.trans (HB3.out.mono HBE.out.size)).grown HG4.out (by have := HBE.out.size; have := HB3.out.size; omega) (by simp))⟩
          case measure => simp [intOf]; omega
        · obtain rfl : k = len := by omega
          obtain rfl : lo = pl := by have := HLO.out.symm.trans HPL.out; omega
          have hconv : ∀ nq, (convert 28 9 (.slice (some ⟨w.heap.size + 1, 0, none⟩) lo t.size)).run Try.prog (wr.drewN nq) = .ok (.string ⟨(t.data.toList.take lo).toArray⟩) (wr.drewN nq) := fun nq =>
            run_string_own Try.prog (wr.drewN nq) 28 9 5 (w.heap.size + 1) (w.heap.size + 1) lo t.size _ Try.underlying28 Try.underlying5 Try.underlying9 HOW.out
          go_wp2
          go_quiet (fail)
          go_wp2
          go_ret
          exact ⟨ret_boolP (take_same t lo), below_drewN HBE.out nq⟩

set_option maxHeartbeats 800000 in
/-- Too long: she answers at once. -/
theorem part_walk_far (t : ByteArray) (a : Option Addr) (len cap : Nat) (w : World) (_ht : (t.size : Int) ≤ 9223372036854775807) (_hl : (len : Int) ≤ 9223372036854775807) (hfar : ¬ (t.size : Int) + 8 * (len : Int) ≤ 1048576) :
    Calls Try.prog 7 #[.string t, .slice a len cap] w fun e w' => e = .returned (.bool true) ∧ Below w.heap.size w w' := by
  by_cases h1 : (t.size : Int) ≤ 1048576
  · by_cases h2 : (len : Int) ≤ 1048576
    · by_cases h3 : (t.size : Int) + (len : Int) ≤ 1048576
      · by_cases h4 : (len : Int) ≤ 131072
        · go_enter Try.func7, Try.ntmps7
          go_wp2
          go_ret
          exact ⟨rfl, Below.refl _ _⟩
        · go_enter Try.func7, Try.ntmps7
          go_wp2
          go_ret
          exact ⟨rfl, Below.refl _ _⟩
      · go_enter Try.func7, Try.ntmps7
        go_wp2
        go_ret
        exact ⟨rfl, Below.refl _ _⟩
    · go_enter Try.func7, Try.ntmps7
      go_wp2
      go_ret
      exact ⟨rfl, Below.refl _ _⟩
  · go_enter Try.func7, Try.ntmps7
    go_wp2
    go_ret
    exact ⟨rfl, Below.refl _ _⟩

set_option maxHeartbeats 800000 in
/-- No ends: nil, or an empty slice. -/
theorem part_walk_none (t : ByteArray) (a : Option Addr) (cap : Nat) (w : World) (ht : (t.size : Int) ≤ 1048576) :
    Calls Try.prog 7 #[.string t, .slice a 0 cap] w fun e w' => e = .returned (.bool true) ∧ Below w.heap.size w w' := by
  have hnn := fun w => run_neq_slice_nil_any (P := Try.prog) w 29 21 a 0 cap 0 0 Try.underlying29
  obtain ⟨i5, hi5, hz50, hz51, hz52⟩ := info_parts Try.info5
  have hmk1 : ∀ w, (Instr.makeSlice 28 (.int .i64 0) (.int .i64 (t.size : Int))).run Try.prog w = .ok (.slice (some ⟨w.heap.size, 0, none⟩) 0 t.size) (w.alloc (.cells (madeCells #[.int .u8 0] t.size) 5)) := fun w => by
    have := run_make (P := Try.prog) w 28 5 i5 (.int .u8 0) Try.underlying28 hi5 hz50 .i64 .i64 0 (t.size : Int) (by omega) (by omega) (by rw [hz52]; omega) (by omega)
    simpa [hz51, Value.cells] using this
  have hmk0 : ∀ w, (Instr.makeSlice 29 (.int .i64 0) (.int .i64 0)).run Try.prog w = .ok (.slice (some ⟨w.heap.size, 0, none⟩) 0 0) (w.alloc (.cells #[] 21)) := fun _ => by kernel_rfl
  have hcp : ∀ (x y : Option Addr) (c d : Nat) w, (Builtin.copy_ #[29, 29] 3 #[.slice x 0 c, .slice y 0 d]).run Try.prog w = .ok (.int .i64 0) w := fun x y c d w =>
    run_copy_none (P := Try.prog) w 29 29 3 21 x y 0 c 0 d Try.underlying29 (by kernel_rfl) (by simp)
  have hconv : ∀ (w' : World) (x : Addr) (c : Nat), (convert 28 9 (.slice (some x) 0 c)).run Try.prog w' = .ok (.string ⟨#[]⟩) w' := fun w' x c =>
    run_convert_bytes_back (P := Try.prog) w' 28 9 5 x c [] Try.underlying28 Try.underlying5 Try.underlying9 (fun j hj => absurd hj (by simp))
  clear hz50 hz51 hz52 hi5
  cases a with
  | none =>
    go_enter Try.func7, Try.ntmps7
    go_wp2
    refine wp_loop_rounds 1 ?_
    rw [rounds_succ]
    go_wp2
    refine wp_loop_rounds 1 ?_
    rw [rounds_succ]
    go_wp2
    go_quiet (fail)
    go_wp2
    go_ret
    exact ⟨rfl, below_drewN ((Below.refl _ _).alloc (Nat.le_refl _) _) nq⟩
  | some x =>
    go_enter Try.func7, Try.ntmps7
    go_wp2
    refine wp_loop_rounds 1 ?_
    rw [rounds_succ]
    go_wp2
    refine wp_loop_rounds 1 ?_
    rw [rounds_succ]
    go_wp2
    go_quiet (fail)
    go_wp2
    go_ret
    exact ⟨rfl, below_drewN (((Below.refl _ _).alloc (Nat.le_refl _) _).alloc (by simp) _) nq⟩

theorem getD_bound {zs : List Int} (h : ∀ n ∈ zs, (Lit.int .i32 n).wf = true) (j : Nat) : zs.getD j 0 ≤ 2147483647 := by
  by_cases hj : j < zs.length
  · have := h (zs.getD j 0) (by simp [List.getD, hj])
    exact (bounds_i32 this).2
  · simp [List.getD, hj]

theorem part_walk (a0 : ByteArray) (a1 : Option Addr) (len1 cap1 : Nat) (z1 : List Int) (w : World) (w0 : a0.size ≤ maxLen) (w1 : IsRow .i32 w a1 len1 cap1 z1) :
    Calls Try.prog 7 #[.string a0, .slice a1 len1 cap1] w fun e w' => e = .returned (.bool true) ∧ Below w.heap.size w w' := by
  have hl : len1 ≤ maxLen := by
    rcases w1 with ⟨_, rfl, _, _⟩ | ⟨x, _, h1, h2, _⟩
    · exact Nat.zero_le _
    · omega
  unfold maxLen at hl
  by_cases hfar : (a0.size : Int) + 8 * (len1 : Int) ≤ 1048576
  · by_cases h0 : len1 = 0
    · subst h0
      exact part_walk_none a0 a1 cap1 w (by omega)
    · rcases w1 with ⟨_, h, _, _⟩ | ⟨x, rfl, h1, h2, h3, h4, h5⟩
      · exact absurd h h0
      · obtain ⟨b, off, rfl, hc⟩ := ints_at h4 (by omega)
        exact part_walk_some a0 b off len1 cap1 z1 w (by omega) h1 h2 h3 hc (getD_bound h5) hfar
  · exact part_walk_far a0 a1 len1 cap1 w (by unfold maxLen at w0; omega) (by omega) hfar

open Go.ChangeShapes Go.WideShapes Go.ChangeAt
open Go.ChangeMaps (open_string shut_string)

namespace fnNamesPartitionTheirText
set_option linter.unusedVariables false

theorem own : ownKnob Try.prog.godebug = none := by kernel_rfl
theorem laidOut : laidOutB Try.prog = true := by kernel_rfl

set_option maxRecDepth 100000 in
theorem lifted (os : Os) (started : os.Started) (H : Type) (enc : TypeId × Value → H) :
    ReturnsInHanded {} Try.checked os 7 .any (Rows.fnNamesPartitionTheirTextSpec.pre6 enc Try.prog Try.f7 Rows.fnNamesPartitionTheirTextRow.domain false) (Rows.fnNamesPartitionTheirTextSpec.post enc Try.prog Try.f7 false true false false) := by
  refine returnsInHanded_of_change (C := Try.checked) own started (by kernel_rfl) Try.func7
    (ChangeSpec.witness6 (enc := enc) (C := Try.checked) false ⟨#[], #[.string ByteArray.empty, .slice none 0 0], []⟩ 8 (by kernel_rfl) (by kernel_rfl) (by kernel_rfl) (by kernel_rfl)) ?_
  intro W base args ds gs before hval0 hW hcnd _
  have hval : ∀ (j : Nat) t v, Try.f7.params[j]? = some t → args[j]? = some v → Value.okWide Try.prog W .any base t v := hval0
  have hW' := hW
  obtain ⟨p, q, hA0, hV, rfl, hfz, hnd⟩ := hW
  have hA : DataW.TrodAll enc Try.prog W 0 (fun _ => true) true Try.f7.params.toList args.toList ds p := hA0
  rw [Try.params7] at hA hval
  obtain ⟨v0, vs0, d0, ds0, p0, q0, hargs, rfl, rfl, h0, r0⟩ := trodAll_cons hA
  obtain ⟨v1, vs1, d1, ds1, p1, q1, rfl, rfl, rfl, h1, r1⟩ := trodAll_cons r0
  obtain ⟨rfl, rfl, rfl⟩ := trodAll_nil r1
  obtain rfl : args = #[v0, v1] := by cases args; simp_all
  obtain ⟨rfl, rfl⟩ := trodVars_none hV
  obtain ⟨a0, rfl, rfl, rfl, w0⟩ := open_string Try.underlying9 (hval 0 9 v0 rfl rfl) h0
  obtain ⟨a1, len1, cap1, rfl⟩ := okWide_slice Try.underlying29 (hval 1 29 v1 rfl rfl)
  have k1 := h1
  have lt1 : ∀ x ∈ p1, x.block < W.heap.size := by obtain ⟨m, hm⟩ := k1; exact DataW.trod_lt m _ _ _ hm
  obtain ⟨z1, w1⟩ : ∃ zs, IsRow .i32 W a1 len1 cap1 zs := by
    obtain ⟨fuel, hf⟩ := h1
    rcases open_ints Try.underlying29 Try.underlying21 (by kernel_rfl) hf with ⟨hcs, _⟩ | ⟨x, l, c, zs, hcs, _, hl, hm, hz, _, hcell, hwz⟩
    · simp [Value.cells] at hcs
      obtain ⟨rfl, rfl, rfl⟩ := hcs
      exact ⟨[], .inl ⟨rfl, rfl, rfl, rfl⟩⟩
    · simp [Value.cells] at hcs
      obtain ⟨rfl, rfl, rfl⟩ := hcs
      exact ⟨zs, .inr ⟨_, rfl, hl, hm, by simpa using hz, hcell, hwz⟩⟩
  clear hA0 hval0
  refine (part_walk a0 a1 len1 cap1 z1 W w0 w1).mono fun e W' ⟨he, bel⟩ => ?_
  subst he
  exact ⟨_, rfl, _, _, _, [], _, [], hW', trodAll_mk1 (shut_bool Try.underlying4 _), (trodAll_cons_mk (shut_string Try.underlying9 w0) (trodAll_cons_mk (Below.trod laidOut (by kernel_rfl) (of_decide_eq_true (by kernel_rfl)) k1 bel lt1) trodAll_mk0)), rfl, bel.frame _, fun h => by cases h⟩

theorem over : Rows.fnNamesPartitionTheirTextRow.holds Try.pinned (OpenSpec.ofChange Rows.fnNamesPartitionTheirTextSpec) :=
  OpenClaim.holds_of_wide 7 Try.f7 rfl rfl rfl rfl rfl rfl rfl ⟨rfl, rfl, rfl, rfl, rfl⟩ rfl rfl rfl rfl rfl (by kernel_rfl) Try.func7 (by kernel_rfl)
    (of_decide_eq_true (by kernel_rfl)) (by unfold Func.isWrapper; first | (rw [if_pos (by decide +kernel)]; kernel_rfl) | (rw [if_neg (by decide +kernel)]; exact ⟨rfl, rfl⟩))
    (fun os started H enc _ => lifted os started H enc)

/-- THE STATEMENT -/
theorem proved : Rows.FnNamesPartitionTheirTextSaid := over
end fnNamesPartitionTheirText
end Go.Proofs.Qxb6600507a
