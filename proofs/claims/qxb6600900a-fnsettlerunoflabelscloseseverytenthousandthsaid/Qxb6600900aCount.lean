/-
  'ZZTallySettle' (16), 'ZZTallyCountersOf' (17).
-/
import Derived.Test.Qxb6600900aSettle
import Derived.Deep.RegionHeld3
namespace Go.Proofs.Qxb6600900a
open Go.RowKit
attribute [local go_sem] run_store_float

theorem wrap16 (T : Nat) (label : Int) (b : Bool) (R : World → Prop) (w : World) (h : Calls Try.prog 24 #[.pointer (some ⟨T, 0, none⟩), .int .u64 label] w fun e w' => e = .returned (.bool b) ∧ R w') :
    Calls Try.prog 16 #[.pointer (some ⟨T, 0, none⟩), .int .u64 label] w fun e w' => e = .returned (.bool b) ∧ R w' := by
  have H := hid h
  clear h
  go_enter Try.func16, Try.ntmps16
  go_wp2_with (go_at_call 24; refine H.out.mono ?_; rintro e w1 ⟨rfl, hr⟩)
  go_ret
  exact ⟨rfl, hr⟩

/-- What the region that gathers the counters is held under, behind a call that leaves old blocks alone. -/
theorem keepC {w w' : World} {T R : Nat} {v1 v2 v3 : Value} {cs : List Value} (h1 : w.cell? ⟨T, 13, none⟩ = some v1) (h2 : w.cell? ⟨T, 14, none⟩ = some v2) (h3 : w.cell? ⟨T, 15, none⟩ = some v3) (h4 : w.rangeAt T 20 cs) (h5 : w.there R 0 26) (hB : Below w.heap.size w w') (hR : R < w.heap.size) :
    w'.cell? ⟨T, 13, none⟩ = some v1 ∧ w'.cell? ⟨T, 14, none⟩ = some v2 ∧ w'.cell? ⟨T, 15, none⟩ = some v3 ∧ w'.rangeAt T 20 cs ∧ w'.there R 0 26 := by
  have hT : T < w.heap.size := World.block_lt_of_cell? w _ h1
  exact ⟨(hB.cell (p := ⟨T, 13, none⟩) hT).trans h1, (hB.cell (p := ⟨T, 14, none⟩) hT).trans h2, (hB.cell (p := ⟨T, 15, none⟩) hT).trans h3, fun j v hj => (hB.cell (p := ⟨T, 20 + j, none⟩) hT).trans (h4 j v hj), there_below h5 hB hR⟩

theorem keepS {w : World} {T R : Nat} {v1 v2 v3 : Value} {cs : List Value} (h1 : w.cell? ⟨T, 13, none⟩ = some v1) (h2 : w.cell? ⟨T, 14, none⟩ = some v2) (h3 : w.cell? ⟨T, 15, none⟩ = some v3) (h4 : w.rangeAt T 20 cs) (h5 : w.there R 0 26) (hne : T ≠ R) (vs : List Value) :
    (w.setCells R 0 vs).cell? ⟨T, 13, none⟩ = some v1 ∧ (w.setCells R 0 vs).cell? ⟨T, 14, none⟩ = some v2 ∧ (w.setCells R 0 vs).cell? ⟨T, 15, none⟩ = some v3 ∧ (w.setCells R 0 vs).rangeAt T 20 cs ∧ (w.setCells R 0 vs).there R 0 26 := by
  have e : ∀ q, (w.setCells R 0 vs).cell? ⟨T, q, none⟩ = w.cell? ⟨T, q, none⟩ := fun q => World.cell?_setCells_out R vs 0 w ⟨T, q, none⟩ (fun h _ => absurd h hne)
  exact ⟨(e 13).trans h1, (e 14).trans h2, (e 15).trans h3, fun j v hj => (e (20 + j)).trans (h4 j v hj), World.there_setCells h5 _ _ _⟩

set_option linter.unusedSimpArgs false in
set_option maxRecDepth 100000 in
set_option maxHeartbeats 3200000 in
theorem count_any (T : Nat) (a1 a2 a3 p n s0 s1 : Int) (c0 c1 e0 e1 m0 m1 m2 o0 o1 o2 o3 o4 o5 o6 o7 o8 l bu cr : Nat) (w : World)
    (h1 : w.cell? ⟨T, 13, none⟩ = some (.int .u64 a1)) (h2 : w.cell? ⟨T, 14, none⟩ = some (.int .u64 a2)) (h3 : w.cell? ⟨T, 15, none⟩ = some (.int .u64 a3))
    (hr : w.rangeAt T 20 [.int .u64 p, .float .f64 c0, .float .f64 c1, .float .f64 e0, .float .f64 e1, .int .i64 n, .float .f64 m0, .float .f64 m1, .float .f64 m2, .float .f64 o0, .float .f64 o1, .float .f64 o2, .float .f64 o3, .float .f64 o4, .float .f64 o5, .float .f64 o6, .float .f64 o7, .float .f64 o8, .int .i64 s0, .int .i64 s1, .float .f64 l, .float .f64 bu, .float .f64 cr]) (hT : T < w.heap.size) :
    Calls Try.prog 17 #[.pointer (some ⟨T, 0, none⟩)] w fun e w' => e = .returned (.agg #[.int .u64 a1, .int .u64 a2, .int .u64 a3, .int .u64 p, .float .f64 c0, .float .f64 c1, .float .f64 e0, .float .f64 e1, .int .i64 n, .float .f64 m0, .float .f64 m1, .float .f64 m2, .float .f64 o0, .float .f64 o1, .float .f64 o2, .float .f64 o3, .float .f64 o4, .float .f64 o5, .float .f64 o6, .float .f64 o7, .float .f64 o8, .int .i64 s0, .int .i64 s1, .float .f64 l, .float .f64 bu, .float .f64 cr]) ∧ Below w.heap.size w w' := by
  go_enter Try.func17, Try.ntmps17
  go_wp2_with fail
  obtain ⟨wA, hwA⟩ : ∃ wA, wA = w.alloc (.cells #[.int .u64 0, .int .u64 0, .int .u64 0, .int .u64 0, .float .f64 0, .float .f64 0, .float .f64 0, .float .f64 0, .int .i64 0, .float .f64 0, .float .f64 0, .float .f64 0, .float .f64 0, .float .f64 0, .float .f64 0, .float .f64 0, .float .f64 0, .float .f64 0, .float .f64 0, .float .f64 0, .float .f64 0, .int .i64 0, .int .i64 0, .float .f64 0, .float .f64 0, .float .f64 0] 45) := ⟨_, rfl⟩
  rw [← hwA]
  have hsA : wA.heap.size = w.heap.size + 1 := by rw [hwA]; simp
  have hBA : Below w.heap.size w wA := by rw [hwA]; exact (Below.refl _ _).alloc (Nat.le_refl _) _
  have hth : wA.there w.heap.size 0 26 := by rw [hwA]; exact there_new w _ _
  obtain ⟨k1, k2, k3, k4⟩ : wA.cell? ⟨T, 13, none⟩ = some (.int .u64 a1) ∧ wA.cell? ⟨T, 14, none⟩ = some (.int .u64 a2) ∧ wA.cell? ⟨T, 15, none⟩ = some (.int .u64 a3) ∧ wA.rangeAt T 20 [.int .u64 p, .float .f64 c0, .float .f64 c1, .float .f64 e0, .float .f64 e1, .int .i64 n, .float .f64 m0, .float .f64 m1, .float .f64 m2, .float .f64 o0, .float .f64 o1, .float .f64 o2, .float .f64 o3, .float .f64 o4, .float .f64 o5, .float .f64 o6, .float .f64 o7, .float .f64 o8, .int .i64 s0, .int .i64 s1, .float .f64 l, .float .f64 bu, .float .f64 cr] :=
    ⟨(hBA.cell (p := ⟨T, 13, none⟩) hT).trans h1, (hBA.cell (p := ⟨T, 14, none⟩) hT).trans h2, (hBA.cell (p := ⟨T, 15, none⟩) hT).trans h3, fun j v hj => (hBA.cell (p := ⟨T, 20 + j, none⟩) hT).trans (hr j v hj)⟩
  have HBA := hid hBA
  have hRA : w.heap.size < wA.heap.size := by omega
  have hne : T ≠ w.heap.size := by omega
  have HRA := hid hRA
  clear hwA h1 h2 h3 hr hBA hsA hRA
  have hld : ∀ w', w'.rangeAt T 20 [.int .u64 p, .float .f64 c0, .float .f64 c1, .float .f64 e0, .float .f64 e1, .int .i64 n, .float .f64 m0, .float .f64 m1, .float .f64 m2, .float .f64 o0, .float .f64 o1, .float .f64 o2, .float .f64 o3, .float .f64 o4, .float .f64 o5, .float .f64 o6, .float .f64 o7, .float .f64 o8, .int .i64 s0, .int .i64 s1, .float .f64 l, .float .f64 bu, .float .f64 cr] → (Instr.loadAt 57 (.pointer (some ⟨T, 20, none⟩))).run Try.prog w' = .ok (.agg #[.int .u64 p, .float .f64 c0, .float .f64 c1, .float .f64 e0, .float .f64 e1, .int .i64 n, .float .f64 m0, .float .f64 m1, .float .f64 m2, .float .f64 o0, .float .f64 o1, .float .f64 o2, .float .f64 o3, .float .f64 o4, .float .f64 o5, .float .f64 o6, .float .f64 o7, .float .f64 o8, .int .i64 s0, .int .i64 s1, .float .f64 l, .float .f64 bu, .float .f64 cr]) w' := fun w' h => run_loadAt_mid w' T 20 57 _ _ h Try.underlying57 rfl (by kernel_rfl)
  have hst : ∀ w', w'.there w.heap.size 0 26 → (Instr.storeAt 45 (.pointer (some ⟨w.heap.size, 0, none⟩)) (.agg #[.int .u64 a1, .int .u64 a2, .int .u64 a3, .int .u64 p, .float .f64 c0, .float .f64 c1, .float .f64 e0, .float .f64 e1, .int .i64 n, .float .f64 m0, .float .f64 m1, .float .f64 m2, .float .f64 o0, .float .f64 o1, .float .f64 o2, .float .f64 o3, .float .f64 o4, .float .f64 o5, .float .f64 o6, .float .f64 o7, .float .f64 o8, .int .i64 s0, .int .i64 s1, .float .f64 l, .float .f64 bu, .float .f64 cr])).run Try.prog w' = .ok () (w'.setCells w.heap.size 0 [.int .u64 a1, .int .u64 a2, .int .u64 a3, .int .u64 p, .float .f64 c0, .float .f64 c1, .float .f64 e0, .float .f64 e1, .int .i64 n, .float .f64 m0, .float .f64 m1, .float .f64 m2, .float .f64 o0, .float .f64 o1, .float .f64 o2, .float .f64 o3, .float .f64 o4, .float .f64 o5, .float .f64 o6, .float .f64 o7, .float .f64 o8, .int .i64 s0, .int .i64 s1, .float .f64 l, .float .f64 bu, .float .f64 cr]) := fun w' h => run_storeAt_mid w' w.heap.size 0 45 _ h (by kernel_rfl) (by simp [Value.oneCell'])
  obtain ⟨R, hR⟩ : ∃ R, R = w.heap.size := ⟨_, rfl⟩
  rw [← hR] at hth hst hne HRA ⊢
  have HR := hid hR
  clear hR
  refine wp_region_held_drew (S := fun w' => w'.cell? ⟨T, 13, none⟩ = some (.int .u64 a1) ∧ w'.cell? ⟨T, 14, none⟩ = some (.int .u64 a2) ∧ w'.cell? ⟨T, 15, none⟩ = some (.int .u64 a3) ∧ w'.rangeAt T 20 [.int .u64 p, .float .f64 c0, .float .f64 c1, .float .f64 e0, .float .f64 e1, .int .i64 n, .float .f64 m0, .float .f64 m1, .float .f64 m2, .float .f64 o0, .float .f64 o1, .float .f64 o2, .float .f64 o3, .float .f64 o4, .float .f64 o5, .float .f64 o6, .float .f64 o7, .float .f64 o8, .int .i64 s0, .int .i64 s1, .float .f64 l, .float .f64 bu, .float .f64 cr] ∧ w'.there R 0 26) (by kernel_rfl) ⟨k1, k2, k3, k4, hth⟩ (fun hS => ?_)
  have HLD := hid hld
  have HST := hid hst
  have HK1 := hid k1
  have HK2 := hid k2
  have HK3 := hid k3
  have HK4 := hid k4
  have HTH := hid hth
  have HSS := hid hS
  clear hld hst k1 k2 k3 k4 hth hS
  refine wpAnyH_take (i := 0) (v := .pointer (some ⟨T, 0, none⟩)) rfl (by kernel_rfl) (by kernel_rfl) (by kernel_rfl) (fun _ _ _ h => h) (Or.inl ⟨by rfl, fun w' hw => ?_⟩) HSS.out ?_
  · obtain ⟨x1, x2, x3, _, _⟩ := hw
    go_simp
  simp only [List.getElem_toArray, List.getElem_cons_zero, List.getElem_cons_succ, Act.put, List.setIfInBounds_toArray, List.set_cons_zero, List.set_cons_succ]
  refine wpAnyH_take (i := 1) (v := .pointer (some ⟨T, 0, none⟩)) rfl (by kernel_rfl) (by kernel_rfl) (by kernel_rfl) (fun _ _ _ h => h) (Or.inl ⟨by rfl, fun w' hw => ?_⟩) HSS.out ?_
  · obtain ⟨x1, x2, x3, _, _⟩ := hw
    go_simp
  simp only [List.getElem_toArray, List.getElem_cons_zero, List.getElem_cons_succ, Act.put, List.setIfInBounds_toArray, List.set_cons_zero, List.set_cons_succ]
  refine wpAnyH_take (i := 2) (v := .pointer (some ⟨T, 13, none⟩)) rfl (by kernel_rfl) (by kernel_rfl) (by kernel_rfl) (fun _ _ _ h => h) (Or.inl ⟨by rfl, fun w' hw => ?_⟩) HSS.out ?_
  · obtain ⟨x1, x2, x3, _, _⟩ := hw
    go_simp
  simp only [List.getElem_toArray, List.getElem_cons_zero, List.getElem_cons_succ, Act.put, List.setIfInBounds_toArray, List.set_cons_zero, List.set_cons_succ]
  refine wpAnyH_take (i := 3) (v := .int .u64 a1) rfl (by kernel_rfl) (by kernel_rfl) (by kernel_rfl) (fun _ _ _ h => h) (Or.inl ⟨by rfl, fun w' hw => ?_⟩) HSS.out ?_
  · obtain ⟨x1, x2, x3, _, _⟩ := hw
    go_simp
  simp only [List.getElem_toArray, List.getElem_cons_zero, List.getElem_cons_succ, Act.put, List.setIfInBounds_toArray, List.set_cons_zero, List.set_cons_succ]
  refine wpAnyH_take (i := 4) (v := .pointer (some ⟨T, 0, none⟩)) rfl (by kernel_rfl) (by kernel_rfl) (by kernel_rfl) (fun _ _ _ h => h) (Or.inl ⟨by rfl, fun w' hw => ?_⟩) HSS.out ?_
  · obtain ⟨x1, x2, x3, _, _⟩ := hw
    go_simp
  simp only [List.getElem_toArray, List.getElem_cons_zero, List.getElem_cons_succ, Act.put, List.setIfInBounds_toArray, List.set_cons_zero, List.set_cons_succ]
  refine wpAnyH_take (i := 5) (v := .pointer (some ⟨T, 0, none⟩)) rfl (by kernel_rfl) (by kernel_rfl) (by kernel_rfl) (fun _ _ _ h => h) (Or.inl ⟨by rfl, fun w' hw => ?_⟩) HSS.out ?_
  · obtain ⟨x1, x2, x3, _, _⟩ := hw
    go_simp
  simp only [List.getElem_toArray, List.getElem_cons_zero, List.getElem_cons_succ, Act.put, List.setIfInBounds_toArray, List.set_cons_zero, List.set_cons_succ]
  refine wpAnyH_take (i := 6) (v := .pointer (some ⟨T, 14, none⟩)) rfl (by kernel_rfl) (by kernel_rfl) (by kernel_rfl) (fun _ _ _ h => h) (Or.inl ⟨by rfl, fun w' hw => ?_⟩) HSS.out ?_
  · obtain ⟨x1, x2, x3, _, _⟩ := hw
    go_simp
  simp only [List.getElem_toArray, List.getElem_cons_zero, List.getElem_cons_succ, Act.put, List.setIfInBounds_toArray, List.set_cons_zero, List.set_cons_succ]
  refine wpAnyH_take (i := 7) (v := .int .u64 a2) rfl (by kernel_rfl) (by kernel_rfl) (by kernel_rfl) (fun _ _ _ h => h) (Or.inl ⟨by rfl, fun w' hw => ?_⟩) HSS.out ?_
  · obtain ⟨x1, x2, x3, _, _⟩ := hw
    go_simp
  simp only [List.getElem_toArray, List.getElem_cons_zero, List.getElem_cons_succ, Act.put, List.setIfInBounds_toArray, List.set_cons_zero, List.set_cons_succ]
  refine wpAnyH_take (i := 8) (v := .pointer (some ⟨T, 0, none⟩)) rfl (by kernel_rfl) (by kernel_rfl) (by kernel_rfl) (fun _ _ _ h => h) (Or.inl ⟨by rfl, fun w' hw => ?_⟩) HSS.out ?_
  · obtain ⟨x1, x2, x3, _, _⟩ := hw
    go_simp
  simp only [List.getElem_toArray, List.getElem_cons_zero, List.getElem_cons_succ, Act.put, List.setIfInBounds_toArray, List.set_cons_zero, List.set_cons_succ]
  refine wpAnyH_take (i := 9) (v := .pointer (some ⟨T, 0, none⟩)) rfl (by kernel_rfl) (by kernel_rfl) (by kernel_rfl) (fun _ _ _ h => h) (Or.inl ⟨by rfl, fun w' hw => ?_⟩) HSS.out ?_
  · obtain ⟨x1, x2, x3, _, _⟩ := hw
    go_simp
  simp only [List.getElem_toArray, List.getElem_cons_zero, List.getElem_cons_succ, Act.put, List.setIfInBounds_toArray, List.set_cons_zero, List.set_cons_succ]
  refine wpAnyH_take (i := 10) (v := .pointer (some ⟨T, 15, none⟩)) rfl (by kernel_rfl) (by kernel_rfl) (by kernel_rfl) (fun _ _ _ h => h) (Or.inl ⟨by rfl, fun w' hw => ?_⟩) HSS.out ?_
  · obtain ⟨x1, x2, x3, _, _⟩ := hw
    go_simp
  simp only [List.getElem_toArray, List.getElem_cons_zero, List.getElem_cons_succ, Act.put, List.setIfInBounds_toArray, List.set_cons_zero, List.set_cons_succ]
  refine wpAnyH_take (i := 11) (v := .int .u64 a3) rfl (by kernel_rfl) (by kernel_rfl) (by kernel_rfl) (fun _ _ _ h => h) (Or.inl ⟨by rfl, fun w' hw => ?_⟩) HSS.out ?_
  · obtain ⟨x1, x2, x3, _, _⟩ := hw
    go_simp
  simp only [List.getElem_toArray, List.getElem_cons_zero, List.getElem_cons_succ, Act.put, List.setIfInBounds_toArray, List.set_cons_zero, List.set_cons_succ]
  refine wpAnyH_take (i := 12) (v := .pointer (some ⟨T, 0, none⟩)) rfl (by kernel_rfl) (by kernel_rfl) (by kernel_rfl) (fun _ _ _ h => h) (Or.inl ⟨by rfl, fun w' hw => ?_⟩) HSS.out ?_
  · obtain ⟨x1, x2, x3, _, _⟩ := hw
    go_simp
  simp only [List.getElem_toArray, List.getElem_cons_zero, List.getElem_cons_succ, Act.put, List.setIfInBounds_toArray, List.set_cons_zero, List.set_cons_succ]
  refine wpAnyH_take (i := 13) (v := .pointer (some ⟨T, 0, none⟩)) rfl (by kernel_rfl) (by kernel_rfl) (by kernel_rfl) (fun _ _ _ h => h) (Or.inl ⟨by rfl, fun w' hw => ?_⟩) HSS.out ?_
  · obtain ⟨x1, x2, x3, _, _⟩ := hw
    go_simp
  simp only [List.getElem_toArray, List.getElem_cons_zero, List.getElem_cons_succ, Act.put, List.setIfInBounds_toArray, List.set_cons_zero, List.set_cons_succ]
  refine wpAnyH_take (i := 14) (v := .pointer (some ⟨T, 20, none⟩)) rfl (by kernel_rfl) (by kernel_rfl) (by kernel_rfl) (fun _ _ _ h => h) (Or.inl ⟨by rfl, fun w' hw => ?_⟩) HSS.out ?_
  · obtain ⟨x1, x2, x3, _, _⟩ := hw
    go_simp
  simp only [List.getElem_toArray, List.getElem_cons_zero, List.getElem_cons_succ, Act.put, List.setIfInBounds_toArray, List.set_cons_zero, List.set_cons_succ]
  refine wpAnyH_take (i := 15) (v := .agg (List.toArray [.int .u64 p, .float .f64 c0, .float .f64 c1, .float .f64 e0, .float .f64 e1, .int .i64 n, .float .f64 m0, .float .f64 m1, .float .f64 m2, .float .f64 o0, .float .f64 o1, .float .f64 o2, .float .f64 o3, .float .f64 o4, .float .f64 o5, .float .f64 o6, .float .f64 o7, .float .f64 o8, .int .i64 s0, .int .i64 s1, .float .f64 l, .float .f64 bu, .float .f64 cr])) rfl (by kernel_rfl) (by kernel_rfl) (by kernel_rfl) (fun _ _ _ h => h) (yieldsIf_load_mid (by rfl) 57 (.tmp 17) rfl T 20 rfl _ _ (fun w' hw => hw.2.2.2.1) Try.underlying57 rfl (by kernel_rfl)) HSS.out ?_
  simp only [List.getElem_toArray, List.getElem_cons_zero, List.getElem_cons_succ, Act.put, List.setIfInBounds_toArray, List.set_cons_zero, List.set_cons_succ]
  refine wpAnyH_ready (rs := [16]) (by kernel_rfl) (by simp) (AllReadyH.cons rfl (fun K' hK => ?_) AllReadyH.nil)
  rw [if_pos (by rfl)]
  simp only [List.getElem_toArray, List.getElem_cons_zero, List.getElem_cons_succ]
  go_wp2_with (go_at_call 23; refine (from_any p n s0 s1 c0 c1 e0 e1 m0 m1 m2 o0 o1 o2 o3 o4 o5 o6 o7 o8 l bu cr _).mono ?_; rintro e w2 ⟨rfl, hb2⟩)
  have HS2 := hid (keepC HSS.out.1 HSS.out.2.1 HSS.out.2.2.1 HSS.out.2.2.2.1 HSS.out.2.2.2.2 hb2 HRA.out)
  have HB2 : Hid (Below w.heap.size w w2) := HBA.out.drew.trans (hb2.mono HBA.out.size)
  clear hb2 HSS HBA
  refine hK.out _ _ HS2.out (fun _ => ?_)
  refine wpAnyH_take (i := 17) (v := .agg (List.toArray [.int .u64 a1, .int .u64 a2, .int .u64 a3, .int .u64 p, .float .f64 c0, .float .f64 c1, .float .f64 e0, .float .f64 e1, .int .i64 n, .float .f64 m0, .float .f64 m1, .float .f64 m2, .float .f64 o0, .float .f64 o1, .float .f64 o2, .float .f64 o3, .float .f64 o4, .float .f64 o5, .float .f64 o6, .float .f64 o7, .float .f64 o8, .int .i64 s0, .int .i64 s1, .float .f64 l, .float .f64 bu, .float .f64 cr])) rfl (by kernel_rfl) (by kernel_rfl) (by kernel_rfl) (fun _ _ _ h => h) (Or.inl ⟨by rfl, fun w' hw => ?_⟩) HS2.out ?_
  · clear hw
    go_simp
  simp only [List.getElem_toArray, List.getElem_cons_zero, List.getElem_cons_succ, Act.put, List.setIfInBounds_toArray, List.set_cons_zero, List.set_cons_succ]
  refine wpAnyH_ready (rs := [18]) (by kernel_rfl) (by simp) (AllReadyH.cons rfl (fun K' hK => ?_) AllReadyH.nil)
  rw [if_pos (by rfl)]
  simp only [List.getElem_toArray, List.getElem_cons_zero, List.getElem_cons_succ]
  refine wp_store_mid 45 (.tmp 2) (.tmp 20) rfl R 0 (List.toArray [.int .u64 a1, .int .u64 a2, .int .u64 a3, .int .u64 p, .float .f64 c0, .float .f64 c1, .float .f64 e0, .float .f64 e1, .int .i64 n, .float .f64 m0, .float .f64 m1, .float .f64 m2, .float .f64 o0, .float .f64 o1, .float .f64 o2, .float .f64 o3, .float .f64 o4, .float .f64 o5, .float .f64 o6, .float .f64 o7, .float .f64 o8, .int .i64 s0, .int .i64 s1, .float .f64 l, .float .f64 bu, .float .f64 cr]) rfl rfl HS2.out.2.2.2.2 (by kernel_rfl) (by simp [Value.oneCell']) ?_
  refine hK.out _ _ (keepS HS2.out.1 HS2.out.2.1 HS2.out.2.2.1 HS2.out.2.2.2.1 HS2.out.2.2.2.2 hne _) (fun _ => ?_)
  refine wpAnyH_done (by kernel_rfl) ?_ _
  have HRG := hid (World.rangeAt_setCells_same w2 R 0 [.int .u64 a1, .int .u64 a2, .int .u64 a3, .int .u64 p, .float .f64 c0, .float .f64 c1, .float .f64 e0, .float .f64 e1, .int .i64 n, .float .f64 m0, .float .f64 m1, .float .f64 m2, .float .f64 o0, .float .f64 o1, .float .f64 o2, .float .f64 o3, .float .f64 o4, .float .f64 o5, .float .f64 o6, .float .f64 o7, .float .f64 o8, .int .i64 s0, .int .i64 s1, .float .f64 l, .float .f64 bu, .float .f64 cr] HS2.out.2.2.2.2)
  have HBF : Hid (Below w.heap.size w (w2.setCells R 0 [.int .u64 a1, .int .u64 a2, .int .u64 a3, .int .u64 p, .float .f64 c0, .float .f64 c1, .float .f64 e0, .float .f64 e1, .int .i64 n, .float .f64 m0, .float .f64 m1, .float .f64 m2, .float .f64 o0, .float .f64 o1, .float .f64 o2, .float .f64 o3, .float .f64 o4, .float .f64 o5, .float .f64 o6, .float .f64 o7, .float .f64 o8, .int .i64 s0, .int .i64 s1, .float .f64 l, .float .f64 bu, .float .f64 cr])) := below_setCells R (by rw [HR.out]; exact Nat.le_refl _) _ _ _ HB2.out
  simp only [List.toList_toArray]
  obtain ⟨w3, hw3⟩ : ∃ w3, w3 = w2.setCells R 0 [.int .u64 a1, .int .u64 a2, .int .u64 a3, .int .u64 p, .float .f64 c0, .float .f64 c1, .float .f64 e0, .float .f64 e1, .int .i64 n, .float .f64 m0, .float .f64 m1, .float .f64 m2, .float .f64 o0, .float .f64 o1, .float .f64 o2, .float .f64 o3, .float .f64 o4, .float .f64 o5, .float .f64 o6, .float .f64 o7, .float .f64 o8, .int .i64 s0, .int .i64 s1, .float .f64 l, .float .f64 bu, .float .f64 cr] := ⟨_, rfl⟩
  rw [← hw3] at HRG HBF ⊢
  clear hw3 HB2 HS2 HLD HST HK1 HK2 HK3 HK4 HTH
  go_wp2
  refine ret_struct 2 45 Try.results17 R [.int .u64 a1, .int .u64 a2, .int .u64 a3, .int .u64 p, .float .f64 c0, .float .f64 c1, .float .f64 e0, .float .f64 e1, .int .i64 n, .float .f64 m0, .float .f64 m1, .float .f64 m2, .float .f64 o0, .float .f64 o1, .float .f64 o2, .float .f64 o3, .float .f64 o4, .float .f64 o5, .float .f64 o6, .float .f64 o7, .float .f64 o8, .int .i64 s0, .int .i64 s1, .float .f64 l, .float .f64 bu, .float .f64 cr] _ rfl HRG.out Try.underlying45 rfl (by kernel_rfl) rfl ⟨rfl, HBF.out⟩

end Go.Proofs.Qxb6600900a
