import Derived.Test.Qxb6600507aName
import Derived.Test.Qxb6600507aRowLaws
import Derived.ProofKit
import Derived.OpenShut
import Derived.SliceStrings
import Derived.ChangeOld
import Derived.LoopN
import Derived.Deep.RegionHeld3
namespace Go.Proofs.Qxb6600507a
open Go.RowKit

/-! ### The plain law: names laid end to end -/
def nm (ss : List ByteArray) (k : Nat) : ByteArray := ss.getD k ByteArray.empty

/-- The first k names, end to end. -/
def cat (ss : List ByteArray) : Nat → List UInt8
  | 0 => []
  | k + 1 => cat ss k ++ (nm ss k).data.toList

/-- What the law reckons of the first k names: each length and 16. -/
def tot (ss : List ByteArray) : Nat → Nat
  | 0 => 0
  | k + 1 => tot ss k + ((nm ss k).size + 16)

theorem cat_succ_len (ss : List ByteArray) (k : Nat) : (cat ss (k + 1)).length = (cat ss k).length + (nm ss k).size := by
  simp [cat]

theorem cat_le_tot (ss : List ByteArray) : ∀ k, (cat ss k).length ≤ tot ss k
  | 0 => by simp [cat]
  | k + 1 => by rw [cat_succ_len]; have := cat_le_tot ss k; unfold tot; omega

theorem tot_mono (ss : List ByteArray) (k : Nat) : ∀ m, k ≤ m → tot ss k ≤ tot ss m
  | 0, h => by rw [Nat.le_zero.1 h]; exact Nat.le_refl _
  | m + 1, h => by
    by_cases e : k = m + 1
    · rw [e]; exact Nat.le_refl _
    · have := tot_mono ss k m (by omega); have e2 : tot ss (m + 1) = tot ss m + ((nm ss m).size + 16) := rfl; omega

theorem cat_prefix (ss : List ByteArray) (k : Nat) : ∀ m, k ≤ m → ∃ r, cat ss m = cat ss k ++ r
  | 0, h => by rw [Nat.le_zero.1 h]; exact ⟨[], by simp⟩
  | m + 1, h => by
    by_cases e : k = m + 1
    · rw [e]; exact ⟨[], by simp⟩
    · obtain ⟨r, hr⟩ := cat_prefix ss k m (by omega)
      exact ⟨r ++ (nm ss m).data.toList, by rw [cat, hr, List.append_assoc]⟩

theorem cat_len_mono (ss : List ByteArray) (k m : Nat) (h : k ≤ m) : (cat ss k).length ≤ (cat ss m).length := by
  obtain ⟨r, hr⟩ := cat_prefix ss k m h; rw [hr]; simp

/-- The k-th name is found between its ends. -/
theorem cat_extract (ss : List ByteArray) (n k : Nat) (h : k < n) : ((⟨(cat ss n).toArray⟩ : ByteArray).extract (cat ss k).length (cat ss (k + 1)).length).toList = (nm ss k).toList := by
  obtain ⟨r, hr⟩ := cat_prefix ss (k + 1) n (by omega)
  rw [ByteArray.toList_eq, ByteArray.toList_eq, ByteArray.data_extract, Array.toList_extract, List.extract_eq_take_drop, cat_succ_len]
  show List.take _ (List.drop _ (cat ss n)) = _
  rw [hr, cat, List.append_assoc, List.drop_left, Nat.add_sub_cancel_left]
  have : (nm ss k).size = (nm ss k).data.toList.length := by simp
  rw [this, List.take_left]

/-- The running lengths, as cells. -/
def endsL (ss : List ByteArray) : Nat → List Value
  | 0 => []
  | k + 1 => endsL ss k ++ [.int .i32 ((cat ss (k + 1)).length : Int)]

theorem endsL_length (ss : List ByteArray) : ∀ k, (endsL ss k).length = k
  | 0 => rfl
  | k + 1 => by simp [endsL, endsL_length ss k]

theorem endsL_at (ss : List ByteArray) (j : Nat) : ∀ k, j < k → (endsL ss k)[j]? = some (.int .i32 ((cat ss (j + 1)).length : Int))
  | 0, h => by omega
  | k + 1, h => by
    rw [endsL]
    by_cases e : j = k
    · subst e; rw [List.getElem?_append_right (by rw [endsL_length]; omega), endsL_length]; simp
    · rw [List.getElem?_append_left (by rw [endsL_length]; omega)]; exact endsL_at ss j k (by omega)

theorem keep_call {wx w w' : World} {a : Addr} {v : Value} (h : w.cell? a = some v) (hB : Below wx.heap.size wx w) (hb : Below w.heap.size w w') : w'.cell? a = some v ∧ Below wx.heap.size wx w' :=
  ⟨(hb.cell (World.block_lt_of_cell? w a h)).trans h, hB.trans (hb.mono hB.size)⟩

theorem hid {p : Prop} (h : p) : Hid p := h

/-! ### The walks -/
set_option maxHeartbeats 400000 in
/-- The bound on the total length: she answers, and turns nothing. -/
theorem zz14_any (b off len cap : Nat) (ss : List ByteArray) (w : World) (hl : len ≤ maxLen)
    (hcell : ∀ j, j < len → w.cell? ⟨b, off + j, none⟩ = some (.string (nm ss j))) (hsz : ∀ j, (nm ss j).size ≤ maxLen) :
    Calls Try.prog 14 #[.slice (some ⟨b, off, none⟩) len cap] w fun e w' => (e = .returned (.bool true) ∨ e = .returned (.bool false)) ∧ w' = w := by
  unfold maxLen at hl
  have HC : Hid (∀ j, j < len → w.cell? ⟨b, off + j, none⟩ = some (.string (nm ss j))) := hcell
  have HS : Hid (∀ j, (nm ss j).size ≤ maxLen) := hsz
  clear hcell hsz
  by_cases h1 : (len : Int) ≤ 1048576
  · go_enter Try.func14, Try.ntmps14
    go_wp2
    go_loop [3, 4] (fun n i => ∃ (k : Nat) (z : Int), k ≤ len ∧ i = .int .i64 k ∧ n = .int .i64 z ∧ 0 ≤ z ∧ z ≤ 1048576) (fun _ i => len - (intOf i).toNat)
    case atStart => exact ⟨0, _, Nat.zero_le _, rfl, rfl, by omega, by omega⟩
    case round =>
      obtain ⟨k, z, hk, rfl, rfl, hz0, hz1⟩ := hrel
      by_cases hlt : k < len
      · obtain ⟨s, hs⟩ : ∃ s, s = nm ss k := ⟨_, rfl⟩
        have hc : w.cell? ⟨b, off + k, none⟩ = some (.string s) := by rw [hs]; exact HC.out k hlt
        have hsz : s.size ≤ 9223372036854775807 := by rw [hs]; exact HS.out k
        clear hs
        by_cases h2 : (s.size : Int) ≤ 1048576
        · by_cases h3 : z + (s.size : Int) ≤ 1048576
          · go_wp2
            go_round
            case rel => exact ⟨k + 1, _, by omega, by go_num, rfl, by omega, by omega⟩
            case measure => simp [intOf]; omega
          · go_wp2
            go_ret
            exact ⟨Or.inr rfl, rfl⟩
        · go_wp2
          go_ret
          exact ⟨Or.inr rfl, rfl⟩
      · go_wp2
        go_ret
        exact ⟨Or.inl rfl, rfl⟩
  · go_enter Try.func14, Try.ntmps14
    go_wp2
    go_ret
    exact ⟨Or.inr rfl, rfl⟩

set_option maxHeartbeats 1600000 in
set_option maxRecDepth 20000 in
theorem round_walk_some (b off len cap : Nat) (ss : List ByteArray) (w : World) (hlen : 0 < len) (hl : len ≤ maxLen)
    (hcell : ∀ j, j < len → w.cell? ⟨b, off + j, none⟩ = some (.string (nm ss j))) (hsz : ∀ j, (nm ss j).size ≤ maxLen) :
    Calls Try.prog 6 #[.slice (some ⟨b, off, none⟩) len cap] w fun e w' => e = .returned (.bool true) ∧ Below w.heap.size w w' := by
  have hl' := hl
  unfold maxLen at hl
  have hbw : b < w.heap.size := World.block_lt_of_cell? w ⟨b, off + 0, none⟩ (hcell 0 (by omega))
  have HC : Hid (∀ j, j < len → w.cell? ⟨b, off + j, none⟩ = some (.string (nm ss j))) := hcell
  have HS : Hid (∀ j, (nm ss j).size ≤ maxLen) := hsz
  clear hcell hsz
  have hnn := fun w => run_neq_slice_nil_any (P := Try.prog) w 26 9 (some ⟨b, off, none⟩) len cap 0 0 Try.underlying26
  go_enter Try.func6, Try.ntmps6
  go_wp2_with fail
  refine (zz14_any b off len cap ss w hl' HC.out HS.out).mono ?_
  rintro e w1 ⟨he, rfl⟩
  rcases he with rfl | rfl
  · by_cases hbig : (len : Int) ≤ 65536
    · go_wp2
      go_loop [3, 4] (fun n i => ∃ (k : Nat) (T : Int), k ≤ len ∧ i = .int .i64 k ∧ n = .int .i64 T ∧ Hid (T = (tot ss k : Int)) ∧ T ≤ 1048576) (fun _ i => len - (intOf i).toNat)
      case atStart => exact ⟨0, 0, Nat.zero_le _, rfl, rfl, Eq.refl _, by omega⟩
      case round =>
        obtain ⟨k, T, hk, rfl, rfl, HTT, hz1⟩ := hrel
        by_cases hlt : k < len
        · obtain ⟨s, hs⟩ : ∃ s, s = nm ss k := ⟨_, rfl⟩
          have hc : w1.cell? ⟨b, off + k, none⟩ = some (.string s) := by rw [hs]; exact HC.out k hlt
          have hsz : s.size ≤ 9223372036854775807 := by rw [hs]; exact HS.out k
          have HT : Hid (((tot ss (k + 1) : Nat) : Int) = T + ((s.size : Int) + 16)) := by show _ = _; rw [hs, HTT.out]; simp [tot]
          have hT0 : 0 ≤ T := by rw [HTT.out]; omega
          clear hs
          by_cases h2 : (s.size : Int) ≤ 1048576
          · by_cases h3 : T + ((s.size : Int) + 16) ≤ 1048576
            · go_wp2
              go_round
              case rel => exact ⟨k + 1, _, by omega, by go_num, rfl, HT.out.symm, h3⟩
              case measure => simp [intOf]; omega
            · go_wp2
              go_ret
              exact ⟨rfl, Below.refl _ _⟩
          · go_wp2
            go_ret
            exact ⟨rfl, Below.refl _ _⟩
        · obtain rfl : len = k := by omega
          obtain ⟨N, hN⟩ : ∃ N : Nat, T = (N : Int) := ⟨tot ss len, HTT.out⟩
          rw [hN] at hz1 HTT ⊢
          have HN : Hid (N = tot ss len) := by have := HTT.out; show _ = _; omega
          clear hN HTT T
          obtain ⟨i5, hi5, hz50, hz51, hz52⟩ := info_parts Try.info5
          obtain ⟨i21, hi21, hz210, hz211, hz212⟩ := info_parts Try.info21
          have hmk0 : ∀ w, (Instr.makeSlice 26 (.int .i64 (len : Int)) (.int .i64 (len : Int))).run Try.prog w = .ok (.slice (some ⟨w.heap.size, 0, none⟩) len len) (w.alloc (.cells (madeCells #[.string ⟨#[]⟩] len) 9)) :=
            fun w => run_make_row' (P := Try.prog) 26 9 (.string ⟨#[]⟩) 16 Try.underlying26 Try.info9 rfl .i64 .i64 len (by omega) (by omega) w
          have hmk1 : ∀ w, (Instr.makeSlice 28 (.int .i64 0) (.int .i64 (N : Int))).run Try.prog w = .ok (.slice (some ⟨w.heap.size, 0, none⟩) 0 N) (w.alloc (.cells (madeCells #[.int .u8 0] N) 5)) := fun w => by
            have := run_make (P := Try.prog) w 28 5 i5 (.int .u8 0) Try.underlying28 hi5 hz50 .i64 .i64 0 (N : Int) (by omega) (by omega) (by rw [hz52]; omega) (by omega)
            simpa [hz51, Value.cells] using this
          have hmk2 : ∀ w, (Instr.makeSlice 29 (.int .i64 0) (.int .i64 (len : Int))).run Try.prog w = .ok (.slice (some ⟨w.heap.size, 0, none⟩) 0 len) (w.alloc (.cells (madeCells #[.int .i32 0] len) 21)) := fun w => by
            have := run_make (P := Try.prog) w 29 21 i21 (.int .i32 0) Try.underlying29 hi21 hz210 .i64 .i64 0 (len : Int) (by omega) (by omega) (by rw [hz212]; omega) (by omega)
            simpa [hz211, Value.cells] using this
          obtain ⟨CS, hCS⟩ : ∃ CS : List Value, CS = (List.range len).map (fun j => Value.string (nm ss j)) := ⟨_, rfl⟩
          have hcl : CS.length = len := by rw [hCS]; simp
          have hat : ∀ j, j < len → CS[j]? = some (.string (nm ss j)) := by intro j hj; rw [hCS]; simp [hj]
          have hsz9 : (Try.prog.info? 9).map (·.size) = some 1 := by kernel_rfl
          have h1c : ∀ v ∈ CS, v.oneCell' = true := by
            rw [hCS]; intro v hv; obtain ⟨j, _, rfl⟩ := List.mem_map.1 hv; rfl
          have hB0 : Below w1.heap.size w1 (w1.alloc (.cells (madeCells #[.string ⟨#[]⟩] len) 9)) := (Below.refl _ _).alloc (Nat.le_refl _) _
          have hsrc : ∀ j v, CS[j]? = some v → (w1.alloc (.cells (madeCells #[.string ⟨#[]⟩] len) 9)).cell? ((⟨b, off, none⟩ : Addr).add j) = some v := by
            intro j v hj
            have hjl : j < len := by have := (List.getElem?_eq_some_iff.1 hj).1; omega
            rw [Addr.add_lit, hB0.cell (p := ⟨b, off + j, none⟩) hbw, HC.out j hjl, ← hj, hat j hjl]
          have hrow0 : (w1.alloc (.cells (madeCells #[.string ⟨#[]⟩] len) 9)).heap[w1.heap.size]? = some (.cells (List.replicate len (.string ⟨#[]⟩)).toArray 9 (0, 0)) := by
            rw [heap_alloc_new, ← toList_madeCells_one]
          obtain ⟨w2, hcopy, hrow2, hB2, hsz2⟩ := copy_whole (P := Try.prog) (w1.alloc (.cells (madeCells #[.string ⟨#[]⟩] len) 9)) 26 26 3 9 w1.heap.size len len ⟨b, off, none⟩ len cap (List.replicate len (.string ⟨#[]⟩)) CS Try.underlying26 hsz9 hrow0 hcl (by simp) hsrc h1c w1.heap.size w1 hB0 (Nat.le_refl _)
          have HROW2 := (show Hid _ from hrow2)
          have HB2 := (show Hid _ from hB2)
          have HAT := (show Hid _ from hat)
          have hsz2' : w2.heap.size = w1.heap.size + 1 := by rw [hsz2]; simp
          clear hrow2 hB2 hrow0 hsrc hB0 h1c hcl hat hCS hsz2
          go_wp2
          clear hcopy hmk0 hmk1 hmk2 hnn
          obtain ⟨w3, hw3⟩ : ∃ w3, w3 = (w2.alloc (.cells (madeCells #[.int .u8 0] N) 5)).alloc (.cells (madeCells #[.int .i32 0] len) 21) := ⟨_, rfl⟩
          rw [← hw3]
          have HS1 : Hid (w3.ownsRow (w1.heap.size + 1) 5 1 (.slice (some ⟨w1.heap.size + 1, 0, none⟩) 0 N) 0 (cells8 [])) := by
            have := World.ownsRow_made (base := w1.heap.size + 1) (e := 5) (size := 1) w2 (madeCells #[.int .u8 0] N) N (by omega) (by unfold maxLen; omega) (by simp [madeCells])
            rw [hsz2'] at this
            rw [hw3]
            exact this.alloc _
          have HS2 : Hid (w3.ownsRow (w1.heap.size + 1) 21 1 (.slice (some ⟨w1.heap.size + 1 + 1, 0, none⟩) 0 len) 0 (endsL ss 0)) := by
            have := World.ownsRow_made (base := w1.heap.size + 1) (e := 21) (size := 1) (w2.alloc (.cells (madeCells #[.int .u8 0] N) 5)) (madeCells #[.int .i32 0] len) len (by simp; omega) (by unfold maxLen; omega) (by simp [madeCells])
            rw [World.size_alloc, hsz2'] at this
            rw [hw3]
            exact this
          have HS3 : Hid (w3.heap[w1.heap.size]? = some (.cells CS.toArray 9 (0, 0))) := by
            show _ = _
            rw [hw3, Below.heap_alloc _ _ _ (by simp; omega), Below.heap_alloc _ _ _ (by omega)]; exact HROW2.out
          have HS4 : Hid (Below w1.heap.size w1 w3) := by
            show Below _ _ _
            rw [hw3]; exact (HB2.out.alloc (by omega) _).alloc (by simp; omega) _
          clear hw3 HROW2 HB2 hsz2'
          go_loopw [6, 7, 8] (fun v u i wr => ∃ k n : Nat, k ≤ len ∧ i = .int .i64 k ∧ v = .slice (some ⟨w1.heap.size + 1, 0, none⟩) n N ∧ u = .slice (some ⟨w1.heap.size + 1 + 1, 0, none⟩) k len ∧ Hid (n = (cat ss k).length) ∧ Hid (wr.ownsRow (w1.heap.size + 1) 5 1 (.slice (some ⟨w1.heap.size + 1, 0, none⟩) n N) n (cells8 (cat ss k))) ∧ Hid (wr.ownsRow (w1.heap.size + 1) 21 1 (.slice (some ⟨w1.heap.size + 1 + 1, 0, none⟩) k len) k (endsL ss k)) ∧ Hid (wr.heap[w1.heap.size]? = some (.cells CS.toArray 9 (0, 0))) ∧ Hid (Below w1.heap.size w1 wr)) (fun _ _ i _ => len - (intOf i).toNat)
          case atStart => exact ⟨0, 0, Nat.zero_le _, rfl, rfl, rfl, Eq.refl _, HS1, HS2, HS3, HS4⟩
          case round =>
            clear HS1 HS2 HS3 HS4
            obtain ⟨k, n, hk, rfl, rfl, rfl, HNK, HO1, HO2, HRN, HBE⟩ := hrel
            by_cases hlt : k < len
            · obtain ⟨s, hs⟩ : ∃ s, s = nm ss k := ⟨_, rfl⟩
              have hc : wr.cell? ⟨w1.heap.size, k, none⟩ = some (.string s) := by
                rw [cell_of_row wr _ _ _ _ _ HRN.out, hs]; simpa using HAT.out k hlt
              have hroom : n + s.size ≤ N := by
                have h1 := cat_le_tot ss (k + 1)
                have h2 := tot_mono ss (k + 1) len (by omega)
                rw [cat_succ_len] at h1
                rw [HNK.out, hs, HN.out]; omega
              have HSK : Hid (s = nm ss k) := hs
              clear hs
              have h1n : ∀ u ∈ [Value.int .i32 ((n : Int) + (s.size : Int))], u.oneCell' = true := by intro u hu; simp at hu; subst hu; rfl
              have H1N := (show Hid _ from h1n)
              clear h1n
              go_wp2_with (first | (at_builtin; refine wpList_append_str _ (by rfl) (.tmp 59) (.tmp 63) 28 9 (by rfl) (w1.heap.size + 1) 5 i5 Try.underlying28 Try.underlying9 hi5 hz51 _ _ _ _ (by rfl) HO1.out _ (by rfl) hroom ?_; intro w4 HO4 HG4; have HO5 : Hid (w4.ownsRow (w1.heap.size + 1) 21 1 (.slice (some ⟨w1.heap.size + 1 + 1, 0, none⟩) k len) k (endsL ss k)) := HO2.out.kept HG4.out (by simp [Value.ownBlock])) | (at_builtin; refine wpList_append_fits _ (by rfl) (.tmp 65) (.tmp 69) 29 (by rfl) (w1.heap.size + 1) 21 i21 1 Try.underlying29 hi21 hz211 (w1.heap.size + 1 + 1) k len (endsL ss k) (by rfl) (HO5.out.alloc _) ⟨w4.heap.size, 0, none⟩ 1 1 [.int .i32 ((n : Int) + (s.size : Int))] (by rfl) (by rfl) (cell_one_new _ _ _) H1N.out (by omega) ?_; intro w6 ho6 hg6; have HO6 := hid ho6; have HG6 := hid hg6; clear ho6 hg6))
              go_roundw
              case rel =>
                have hlc : n + s.size = (cat ss (k + 1)).length := by rw [cat_succ_len, ← HNK.out, ← HSK.out]
                have hz4 : wr.heap.size ≤ w4.heap.size := HG4.out.size
                have hzr : w1.heap.size < wr.heap.size := lt_of_row HRN.out
                refine ⟨k + 1, n + s.size, by omega, by go_num, rfl, rfl, hlc, ?_, ?_, ?_, ?_⟩
                · have h := (HO4.out.alloc (.cells #[.int .i32 ((n : Int) + (s.size : Int))] 21)).kept HG6.out (by simp [Value.ownBlock])
                  rw [HSK.out] at h ⊢
                  exact h
                · have h := HO6.out
                  rw [show ((n : Int) + (s.size : Int)) = (((cat ss (k + 1)).length : Nat) : Int) by omega] at h
                  exact h
                · show _ = _
                  rw [HG6.out.block w1.heap.size (by simp; omega) (by simp; omega), Below.heap_alloc _ _ _ (by omega), HG4.out.block w1.heap.size hzr (by simp)]
                  exact HRN.out
                · exact ((HBE.out.grown HG4.out (by omega) (by simp)).alloc (by omega) _).grown HG6.out (by simp; omega) (by simp; omega)
              case measure => simp [intOf]; omega
            · obtain rfl : len = k := by omega
              have hconv : (convert 28 9 (.slice (some ⟨w1.heap.size + 1, 0, none⟩) n N)).run Try.prog wr = .ok (.string ⟨(cat ss len).toArray⟩) wr :=
                run_string_own Try.prog wr 28 9 5 (w1.heap.size + 1) (w1.heap.size + 1) n N _ Try.underlying28 Try.underlying5 Try.underlying9 HO1.out
              obtain ⟨X, hX⟩ : ∃ X : ByteArray, X = ⟨(cat ss len).toArray⟩ := ⟨_, rfl⟩
              rw [← hX] at hconv
              have HX := hid hX
              have hXs : X.size = n := by rw [hX, HNK.out]; rfl
              have HXS := hid hXs
              clear hX hXs
              have hec : ∀ j, j < len → wr.cell? ⟨w1.heap.size + 1 + 1, j, none⟩ = some (.int .i32 ((cat ss (j + 1)).length : Int)) := by
                intro j hj
                rw [HO2.out.cellAt j (by omega)]; exact endsL_at ss j len hj
              have HEC := hid hec
              clear hec
              have hzr : w1.heap.size + 1 + 1 < wr.heap.size := (HO2.out.lt _ rfl).2
              go_wp2
              clear hconv
              obtain ⟨wx, rfl⟩ : ∃ wx, wx = wr := ⟨_, rfl⟩
              go_loopw [10] (fun i wr => ∃ k : Nat, k ≤ len ∧ i = .int .i64 k ∧ Hid (Below wx.heap.size wx wr)) (fun i _ => len - (intOf i).toNat)
              case atStart => exact ⟨0, Nat.zero_le _, rfl, Below.refl _ _⟩
              case round =>
                obtain ⟨k, hk, rfl, HBX⟩ := hrel
                by_cases hlt : k < len
                · obtain ⟨s, hs⟩ : ∃ s, s = nm ss k := ⟨_, rfl⟩
                  have hc : wr.cell? ⟨w1.heap.size, k, none⟩ = some (.string s) := by
                    rw [HBX.out.cell (p := ⟨w1.heap.size, k, none⟩) (by show w1.heap.size < _; omega), cell_of_row wx _ _ _ _ _ HRN.out, hs]; simpa using HAT.out k hlt
                  obtain ⟨lo, hlo⟩ : ∃ lo, lo = (cat ss k).length := ⟨_, rfl⟩
                  obtain ⟨hi, hhi⟩ : ∃ hi, hi = (cat ss (k + 1)).length := ⟨_, rfl⟩
                  have hck : wr.cell? ⟨w1.heap.size + 1 + 1, k, none⟩ = some (.int .i32 (hi : Int)) := by
                    rw [HBX.out.cell (p := ⟨w1.heap.size + 1 + 1, k, none⟩) (by show w1.heap.size + 1 + 1 < _; omega), HEC.out k hlt, hhi]
                  have hcp : 0 < k → wr.cell? ⟨w1.heap.size + 1 + 1, k - 1, none⟩ = some (.int .i32 (lo : Int)) := by
                    intro h
                    rw [HBX.out.cell (p := ⟨w1.heap.size + 1 + 1, k - 1, none⟩) (by show w1.heap.size + 1 + 1 < _; omega), HEC.out (k - 1) (by omega), hlo, show k - 1 + 1 = k by omega]
                  have h0 : k = 0 → lo = 0 := by intro h; rw [hlo, h]; rfl
                  have hlh : lo ≤ hi := by rw [hlo, hhi]; exact cat_len_mono ss k (k + 1) (by omega)
                  have hht : hi ≤ X.size := by rw [HXS.out, HNK.out, hhi]; exact cat_len_mono ss (k + 1) len (by omega)
                  have hne : ((X.extract lo hi).toList == s.toList) = true := by rw [HX.out, hlo, hhi, hs, cat_extract ss len k hlt]; simp
                  have HCK := hid hck
                  have HCP := hid hcp
                  have H0 := hid h0
                  have i1 : (0 : Int) ≤ (k : Int) := by omega
                  have i2 : (k : Int) < (len : Int) := by omega
                  clear hck hcp h0 hs hlo hhi
                  go_wp2_with fail
                  go_region_held3 (fun w' => w'.cell? ⟨w1.heap.size, k, none⟩ = some (.string s) ∧ Below wx.heap.size wx w') (first | exact ⟨hc, HBX.out.drew⟩ | (go_split_ands; exact keep_call (by assumption) (by assumption) hb2)) (first | (go_at_call 15; refine (nameOf_at X (w1.heap.size + 1 + 1) len len k lo hi _ hlt (by omega) (by exact HCK.out) (by exact HCP.out) H0.out hlh hht).mono ?_; rintro e w2 ⟨rfl, hb2⟩))
                  all_goals
                    go_wp2
                    go_roundw
                    case rel => exact ⟨k + 1, by omega, by go_num, HBX.out.drew.trans (hb2.mono HBX.out.size)⟩
                    case measure => simp [intOf]; omega
                · go_wp2
                  go_ret
                  exact ⟨rfl, HBE.out.trans (HBX.out.mono HBE.out.size)⟩
    · go_wp2
      go_ret
      exact ⟨rfl, Below.refl _ _⟩
  · go_wp2
    go_ret
    exact ⟨rfl, Below.refl _ _⟩

set_option maxHeartbeats 800000 in
/-- No names: nil, or an empty slice. -/
theorem round_walk_none (a : Option Addr) (cap : Nat) (w : World) :
    Calls Try.prog 6 #[.slice a 0 cap] w fun e w' => e = .returned (.bool true) ∧ Below w.heap.size w w' := by
  have hnn := fun w => run_neq_slice_nil_any (P := Try.prog) w 26 9 a 0 cap 0 0 Try.underlying26
  have hmk0 : ∀ w, (Instr.makeSlice 26 (.int .i64 0) (.int .i64 0)).run Try.prog w = .ok (.slice (some ⟨w.heap.size, 0, none⟩) 0 0) (w.alloc (.cells #[] 9)) := fun _ => by kernel_rfl
  have hmk1 : ∀ w, (Instr.makeSlice 28 (.int .i64 0) (.int .i64 0)).run Try.prog w = .ok (.slice (some ⟨w.heap.size, 0, none⟩) 0 0) (w.alloc (.cells #[] 5)) := fun _ => by kernel_rfl
  have hmk2 : ∀ w, (Instr.makeSlice 29 (.int .i64 0) (.int .i64 0)).run Try.prog w = .ok (.slice (some ⟨w.heap.size, 0, none⟩) 0 0) (w.alloc (.cells #[] 21)) := fun _ => by kernel_rfl
  have hcp : ∀ (x y : Option Addr) (c d : Nat) w, (Builtin.copy_ #[26, 26] 3 #[.slice x 0 c, .slice y 0 d]).run Try.prog w = .ok (.int .i64 0) w := fun x y c d w =>
    run_copy_none (P := Try.prog) w 26 26 3 9 x y 0 c 0 d Try.underlying26 (by kernel_rfl) (by simp)
  have hconv : ∀ (w' : World) (x : Addr) (c : Nat), (convert 28 9 (.slice (some x) 0 c)).run Try.prog w' = .ok (.string ⟨#[]⟩) w' := fun w' x c =>
    run_convert_bytes_back (P := Try.prog) w' 28 9 5 x c [] Try.underlying28 Try.underlying5 Try.underlying9 (fun j hj => absurd hj (by simp))
  cases a with
  | none =>
    go_enter Try.func6, Try.ntmps6
    go_wp2
    refine wp_loop_rounds 1 ?_
    rw [rounds_succ]
    go_wp2
    refine wp_loop_rounds 1 ?_
    rw [rounds_succ]
    go_wp2
    refine wp_loop_rounds 1 ?_
    rw [rounds_succ]
    go_wp2
    refine wp_loop_rounds 1 ?_
    rw [rounds_succ]
    go_wp2
    go_ret
    exact ⟨rfl, ((Below.refl _ _).alloc (Nat.le_refl _) _).alloc (by simp) _⟩
  | some x =>
    go_enter Try.func6, Try.ntmps6
    go_wp2
    refine wp_loop_rounds 1 ?_
    rw [rounds_succ]
    go_wp2
    refine wp_loop_rounds 1 ?_
    rw [rounds_succ]
    go_wp2
    refine wp_loop_rounds 1 ?_
    rw [rounds_succ]
    go_wp2
    refine wp_loop_rounds 1 ?_
    rw [rounds_succ]
    go_wp2
    go_ret
    exact ⟨rfl, (((Below.refl _ _).alloc (Nat.le_refl _) _).alloc (by simp) _).alloc (by simp; omega) _⟩

/-- WHAT THE WALK IS TOLD OF A SLICE OF STRINGS THAT CAME IN. -/
def IsStrs (w : World) (a : Option Addr) (len cap : Nat) (ss : List ByteArray) : Prop :=
  (a = none ∧ len = 0) ∨
  ∃ x, a = some x ∧ len ≤ cap ∧ cap ≤ maxLen ∧ ss.length = cap ∧ (∀ i, i < ss.length → w.cell? (x.add i) = some (.string (ss.getD i ByteArray.empty))) ∧ ∀ s ∈ ss, s.size ≤ maxLen

theorem nm_bound {ss : List ByteArray} (h : ∀ s ∈ ss, s.size ≤ maxLen) (j : Nat) : (nm ss j).size ≤ maxLen := by
  unfold nm
  by_cases hj : j < ss.length
  · exact h _ (by simp [List.getD, hj])
  · simp [List.getD, hj]

theorem strs_at {w : World} {a : Addr} {ss : List ByteArray} (h : ∀ i, i < ss.length → w.cell? (a.add i) = some (.string (ss.getD i ByteArray.empty))) (hp : 0 < ss.length) :
    ∃ b off, a = ⟨b, off, none⟩ ∧ ∀ j, j < ss.length → w.cell? ⟨b, off + j, none⟩ = some (.string (nm ss j)) := by
  obtain ⟨b, off, spot⟩ := a
  have hspot : spot = none := by simpa [Addr.add] using World.cell?_spot (h 0 hp)
  subst hspot
  exact ⟨b, off, rfl, fun j hj => by rw [← Go.WideShapes.add_plain]; exact h j hj⟩

theorem round_walk (a : Option Addr) (len cap : Nat) (ss : List ByteArray) (w : World) (h : IsStrs w a len cap ss) :
    Calls Try.prog 6 #[.slice a len cap] w fun e w' => e = .returned (.bool true) ∧ Below w.heap.size w w' := by
  by_cases h0 : len = 0
  · subst h0
    exact round_walk_none a cap w
  · rcases h with ⟨_, h⟩ | ⟨x, rfl, h1, h2, h3, h4, h5⟩
    · exact absurd h h0
    · obtain ⟨b, off, rfl, hc⟩ := strs_at h4 (by omega)
      exact round_walk_some b off len cap ss w (by omega) (by omega) (fun j hj => hc j (by omega)) (nm_bound h5)

open Go.ChangeShapes Go.WideShapes Go.ChangeAt

namespace fnNameRoundTripsLaidOutNames
set_option linter.unusedVariables false

theorem own : ownKnob Try.prog.godebug = none := by kernel_rfl
theorem laidOut : laidOutB Try.prog = true := by kernel_rfl

set_option maxRecDepth 100000 in
theorem lifted (os : Os) (started : os.Started) (H : Type) (enc : TypeId × Value → H) :
    ReturnsInHanded {} Try.checked os 6 .any (Rows.fnNameRoundTripsLaidOutNamesSpec.pre6 enc Try.prog Try.f6 Rows.fnNameRoundTripsLaidOutNamesRow.domain false) (Rows.fnNameRoundTripsLaidOutNamesSpec.post enc Try.prog Try.f6 false true false false) := by
  refine returnsInHanded_of_change (C := Try.checked) own started (by kernel_rfl) Try.func6
    (ChangeSpec.witness6 (enc := enc) (C := Try.checked) false ⟨#[], #[.slice none 0 0], []⟩ 8 (by kernel_rfl) (by kernel_rfl) (by kernel_rfl) (by kernel_rfl)) ?_
  intro W base args ds gs before hval0 hW hcnd _
  have hval : ∀ (j : Nat) t v, Try.f6.params[j]? = some t → args[j]? = some v → Value.okWide Try.prog W .any base t v := hval0
  have hW' := hW
  obtain ⟨p, q, hA0, hV, rfl, hfz, hnd⟩ := hW
  have hA : DataW.TrodAll enc Try.prog W 0 (fun _ => true) true Try.f6.params.toList args.toList ds p := hA0
  rw [Try.params6] at hA hval
  obtain ⟨v1, vs1, d1, ds1, p1, q1, hargs, rfl, rfl, h1, r1⟩ := trodAll_cons hA
  obtain ⟨rfl, rfl, rfl⟩ := trodAll_nil r1
  obtain rfl : args = #[v1] := by cases args; simp_all
  obtain ⟨rfl, rfl⟩ := trodVars_none hV
  obtain ⟨a1, len1, cap1, rfl⟩ := okWide_slice Try.underlying26 (hval 0 26 v1 rfl rfl)
  have k1 := h1
  have lt1 : ∀ x ∈ p1, x.block < W.heap.size := by obtain ⟨m, hm⟩ := k1; exact DataW.trod_lt m _ _ _ hm
  obtain ⟨z1, w1⟩ : ∃ ss, IsStrs W a1 len1 cap1 ss := by
    obtain ⟨fuel, hf⟩ := h1
    rcases open_strings Try.underlying26 Try.underlying9 (by kernel_rfl) hf with ⟨hcs, _⟩ | ⟨x, l, c, ss, hcs, _, hl, hm, hz, _, hcell, hwz⟩
    · simp [Value.cells] at hcs
      obtain ⟨rfl, rfl, rfl⟩ := hcs
      exact ⟨[], .inl ⟨rfl, rfl⟩⟩
    · simp [Value.cells] at hcs
      obtain ⟨rfl, rfl, rfl⟩ := hcs
      exact ⟨ss, .inr ⟨_, rfl, hl, hm, by simpa using hz, hcell, hwz⟩⟩
  clear hA0 hval0
  refine (round_walk a1 len1 cap1 z1 W w1).mono fun e W' ⟨he, bel⟩ => ?_
  subst he
  exact ⟨_, rfl, _, _, _, [], _, [], hW', trodAll_mk1 (shut_bool Try.underlying4 _), (trodAll_cons_mk (Below.trod laidOut (by kernel_rfl) (of_decide_eq_true (by kernel_rfl)) k1 bel lt1) trodAll_mk0), rfl, bel.frame _, fun h => by cases h⟩

theorem over : Rows.fnNameRoundTripsLaidOutNamesRow.holds Try.pinned (OpenSpec.ofChange Rows.fnNameRoundTripsLaidOutNamesSpec) :=
  OpenClaim.holds_of_wide 6 Try.f6 rfl rfl rfl rfl rfl rfl rfl ⟨rfl, rfl, rfl, rfl, rfl⟩ rfl rfl rfl rfl rfl (by kernel_rfl) Try.func6 (by kernel_rfl)
    (of_decide_eq_true (by kernel_rfl)) (by unfold Func.isWrapper; first | (rw [if_pos (by decide +kernel)]; kernel_rfl) | (rw [if_neg (by decide +kernel)]; exact ⟨rfl, rfl⟩))
    (fun os started H enc _ => lifted os started H enc)

/-- THE STATEMENT -/
theorem proved : Rows.FnNameRoundTripsLaidOutNamesSaid := over
end fnNameRoundTripsLaidOutNames
end Go.Proofs.Qxb6600507a
