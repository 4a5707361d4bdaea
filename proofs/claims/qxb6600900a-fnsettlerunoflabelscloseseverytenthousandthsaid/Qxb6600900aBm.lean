import Derived.Test.Qxb6600900aShim
namespace Go.Proofs.Qxb6600900a
open Go.RowKit
attribute [local go_sem] run_store_float

/-- The words that come in, by name. -/
structure Ops.Is (o : Ops) (c0 c1 e0 e1 m0 m1 m2 o0 o1 o2 o3 o4 o5 o6 o7 o8 u : Nat) : Prop where
  hc0 : o.cs 0 = c0
  hc1 : o.cs 1 = c1
  he0 : o.es 0 = e0
  he1 : o.es 1 = e1
  hm0 : o.ms 0 = m0
  hm1 : o.ms 1 = m1
  hm2 : o.ms 2 = m2
  ho0 : o.co 0 = o0
  ho1 : o.co 1 = o1
  ho2 : o.co 2 = o2
  ho3 : o.co 3 = o3
  ho4 : o.co 4 = o4
  ho5 : o.co 5 = o5
  ho6 : o.co 6 = o6
  ho7 : o.co 7 = o7
  ho8 : o.co 8 = o8
  hu : o.xs 0 = u

/-- The cells as a function. -/
def bmF (p n s0 s1 : Int) (c0 c1 e0 e1 m0 m1 m2 o0 o1 o2 o3 o4 o5 o6 o7 o8 l bu cr : Nat) : Nat → Value := fun t => (bm p n s0 s1 c0 c1 e0 e1 m0 m1 m2 o0 o1 o2 o3 o4 o5 o6 o7 o8 l bu cr).getD t (.bool false)

theorem bmF_in {o : Ops} {p n s0 s1 : Int} {c0 c1 e0 e1 m0 m1 m2 o0 o1 o2 o3 o4 o5 o6 o7 o8 l bu cr u : Nat} (h : o.Is c0 c1 e0 e1 m0 m1 m2 o0 o1 o2 o3 o4 o5 o6 o7 o8 u) : o.In p n s0 s1 l (bmF p n s0 s1 c0 c1 e0 e1 m0 m1 m2 o0 o1 o2 o3 o4 o5 o6 o7 o8 l bu cr) where
  c0 := rfl
  c1 := fun k hk => by rcases (show k = 0 ∨ k = 1 by omega) with rfl | rfl; (rw [h.hc0]; rfl); (rw [h.hc1]; rfl)
  c3 := fun k hk => by rcases (show k = 0 ∨ k = 1 by omega) with rfl | rfl; (rw [h.he0]; rfl); (rw [h.he1]; rfl)
  c5 := rfl
  c6 := fun k hk => by rcases (show k = 0 ∨ k = 1 ∨ k = 2 by omega) with rfl | rfl | rfl; (rw [h.hm0]; rfl); (rw [h.hm1]; rfl); (rw [h.hm2]; rfl)
  c9 := fun k hk => by
    rcases (show k = 0 ∨ k = 1 ∨ k = 2 ∨ k = 3 ∨ k = 4 ∨ k = 5 ∨ k = 6 ∨ k = 7 ∨ k = 8 by omega) with rfl | rfl | rfl | rfl | rfl | rfl | rfl | rfl | rfl
    · rw [h.ho0]; rfl
    · rw [h.ho1]; rfl
    · rw [h.ho2]; rfl
    · rw [h.ho3]; rfl
    · rw [h.ho4]; rfl
    · rw [h.ho5]; rfl
    · rw [h.ho6]; rfl
    · rw [h.ho7]; rfl
    · rw [h.ho8]; rfl
  c18 := rfl
  c19 := rfl
  c20 := rfl

/-- Out of the cells, the words. -/
theorem range_of_in {o : Ops} {p n s0 s1 : Int} {l b off : Nat} {F : Nat → Value} {w : World} (h : o.In p n s0 s1 l F) (hH : Holds w b off 23 F) (bu cr : Nat) (h21 : F 21 = .float .f64 bu) (h22 : F 22 = .float .f64 cr) :
    w.rangeAt b off (bm p n s0 s1 (o.cs 0) (o.cs 1) (o.es 0) (o.es 1) (o.ms 0) (o.ms 1) (o.ms 2) (o.co 0) (o.co 1) (o.co 2) (o.co 3) (o.co 4) (o.co 5) (o.co 6) (o.co 7) (o.co 8) l bu cr).toList := by
  intro j v hj
  have hlt : j < 23 := (List.getElem?_eq_some_iff.1 hj).1
  rw [hH.cell j hlt, ← hj]
  rcases (show j = 0 ∨ j = 1 ∨ j = 2 ∨ j = 3 ∨ j = 4 ∨ j = 5 ∨ j = 6 ∨ j = 7 ∨ j = 8 ∨ j = 9 ∨ j = 10 ∨ j = 11 ∨ j = 12 ∨ j = 13 ∨ j = 14 ∨ j = 15 ∨ j = 16 ∨ j = 17 ∨ j = 18 ∨ j = 19 ∨ j = 20 ∨ j = 21 ∨ j = 22 by omega) with rfl | rfl | rfl | rfl | rfl | rfl | rfl | rfl | rfl | rfl | rfl | rfl | rfl | rfl | rfl | rfl | rfl | rfl | rfl | rfl | rfl | rfl | rfl
  · rw [h.c0]; rfl
  · rw [h.c1 0 (by omega)]; rfl
  · rw [h.c1 1 (by omega)]; rfl
  · rw [h.c3 0 (by omega)]; rfl
  · rw [h.c3 1 (by omega)]; rfl
  · rw [h.c5]; rfl
  · rw [h.c6 0 (by omega)]; rfl
  · rw [h.c6 1 (by omega)]; rfl
  · rw [h.c6 2 (by omega)]; rfl
  · rw [h.c9 0 (by omega)]; rfl
  · rw [h.c9 1 (by omega)]; rfl
  · rw [h.c9 2 (by omega)]; rfl
  · rw [h.c9 3 (by omega)]; rfl
  · rw [h.c9 4 (by omega)]; rfl
  · rw [h.c9 5 (by omega)]; rfl
  · rw [h.c9 6 (by omega)]; rfl
  · rw [h.c9 7 (by omega)]; rfl
  · rw [h.c9 8 (by omega)]; rfl
  · rw [h.c18]; rfl
  · rw [h.c19]; rfl
  · rw [h.c20]; rfl
  · rw [h21]; rfl
  · rw [h22]; rfl

theorem there_new (w : World) (c : Array Value) (t : TypeId) : (w.alloc (.cells c t)).there w.heap.size 0 c.size := by
  intro j hj
  refine ⟨?_, ?_⟩
  · rw [Nat.zero_add, World.cell?_alloc_new]; simp [hj]
  · rw [frozen?_alloc_cells]; simp [World.frozen?]

theorem there_below {w w' : World} {b o n B : Nat} (h : w.there b o n) (hB : Below B w w') (hb : b < B) : w'.there b o n := fun j hj => by
  obtain ⟨h1, h2⟩ := h j hj
  exact ⟨by rw [hB.cell (p := ⟨b, o + j, none⟩) hb]; exact h1, by rw [hB.frozen (p := ⟨b, o + j, none⟩) hb]; exact h2⟩

theorem there_kept {w w' : World} {b o n b' o' n' : Nat} (h : w.there b o n) (hK : Kept b' o' n' w w') (hb : b < w.heap.size) (hne : b ≠ b') : w'.there b o n := fun j hj => by
  obtain ⟨h1, h2⟩ := h j hj
  have e := hK.block b hb hne
  exact ⟨by rw [World.cell?_of_block (a := ⟨b, o + j, none⟩) e]; exact h1, by rw [World.frozen?_of_block (a := ⟨b, o + j, none⟩) e]; exact h2⟩

theorem below_setCells {B : Nat} {w0 : World} (b : Nat) (hb : B ≤ b) : ∀ (vs : List Value) (o : Nat) (w : World), Below B w0 w → Below B w0 (w.setCells b o vs)
  | [], _, _, h => h
  | v :: r, o, w, h => by
    rw [World.setCells]
    exact below_setCells b hb r (o + 1) _ (h.setCell (by exact hb) _)

set_option maxHeartbeats 1600000 in
theorem bmclose_any (o : Ops) (p n s0 s1 : Int) (c0 c1 e0 e1 m0 m1 m2 o0 o1 o2 o3 o4 o5 o6 o7 o8 l bu cr u L nf : Nat) (w : World)
    (hI : o.Is c0 c1 e0 e1 m0 m1 m2 o0 o1 o2 o3 o4 o5 o6 o7 o8 u) (hV : o.Valid nf) (hn0 : 0 ≤ n) (hn1 : n ≤ 1000000) (hnf : floatOfInt .f64 (n + 1) = nf)
    (hmax : ∀ w, (Builtin.max_ #[22, 22] 22 #[.float .f64 l, .float .f64 u]).run Try.prog w = .ok (.float .f64 L) w) :
    Calls Try.prog 9 #[.agg #[.int .u64 p, .float .f64 c0, .float .f64 c1, .float .f64 e0, .float .f64 e1, .int .i64 n, .float .f64 m0, .float .f64 m1, .float .f64 m2, .float .f64 o0, .float .f64 o1, .float .f64 o2, .float .f64 o3, .float .f64 o4, .float .f64 o5, .float .f64 o6, .float .f64 o7, .float .f64 o8, .int .i64 s0, .int .i64 s1, .float .f64 l, .float .f64 bu, .float .f64 cr], .float .f64 u] w fun e w' =>
      ∃ (s0' s1' : Int) (co' : Nat → Nat), (∀ i j, i < 3 → j < 3 → ∀ r, floatBits .add .f64 (o.co (i * 3 + j)) (o.ps i j) = some r → co' (i * 3 + j) = r) ∧
        e = .returned (.agg (bm 0 (n + 1) s0' s1' 0 0 0 0 (o.mp 0) (o.mp 1) (o.mp 2) (co' 0) (co' 1) (co' 2) (co' 3) (co' 4) (co' 5) (co' 6) (co' 7) (co' 8) L bu cr)) ∧ Below w.heap.size w w' := by
  have hi30 : (Try.prog.info? 30).map (·.size) = some 23 := by kernel_rfl
  have hi57 : (Try.prog.info? 57).map (·.size) = some 23 := by kernel_rfl
  go_enter Try.func9, Try.ntmps9
  iterate 15 (first | go_step | go_skip | go_upon)
  obtain ⟨wA, hwA⟩ : ∃ wA, wA = (w.alloc (.cells #[.int .u64 p, .float .f64 c0, .float .f64 c1, .float .f64 e0, .float .f64 e1, .int .i64 n, .float .f64 m0, .float .f64 m1, .float .f64 m2, .float .f64 o0, .float .f64 o1, .float .f64 o2, .float .f64 o3, .float .f64 o4, .float .f64 o5, .float .f64 o6, .float .f64 o7, .float .f64 o8, .int .i64 s0, .int .i64 s1, .float .f64 l, .float .f64 bu, .float .f64 cr] 30)).alloc (.cells #[.int .u64 0, .float .f64 0, .float .f64 0, .float .f64 0, .float .f64 0, .int .i64 0, .float .f64 0, .float .f64 0, .float .f64 0, .float .f64 0, .float .f64 0, .float .f64 0, .float .f64 0, .float .f64 0, .float .f64 0, .float .f64 0, .float .f64 0, .float .f64 0, .int .i64 0, .int .i64 0, .float .f64 0, .float .f64 0, .float .f64 0] 30) := ⟨_, rfl⟩
  rw [← hwA]
  have HA : Hid (Below w.heap.size w wA) := by rw [hwA]; exact ((Below.refl _ _).alloc (Nat.le_refl _) _).alloc (by simp) _
  have hrA : wA.rangeAt w.heap.size 0 [.int .u64 p, .float .f64 c0, .float .f64 c1, .float .f64 e0, .float .f64 e1, .int .i64 n, .float .f64 m0, .float .f64 m1, .float .f64 m2, .float .f64 o0, .float .f64 o1, .float .f64 o2, .float .f64 o3, .float .f64 o4, .float .f64 o5, .float .f64 o6, .float .f64 o7, .float .f64 o8, .int .i64 s0, .int .i64 s1, .float .f64 l, .float .f64 bu, .float .f64 cr] := by
    rw [hwA]; exact World.rangeAt_alloc (range_new w [.int .u64 p, .float .f64 c0, .float .f64 c1, .float .f64 e0, .float .f64 e1, .int .i64 n, .float .f64 m0, .float .f64 m1, .float .f64 m2, .float .f64 o0, .float .f64 o1, .float .f64 o2, .float .f64 o3, .float .f64 o4, .float .f64 o5, .float .f64 o6, .float .f64 o7, .float .f64 o8, .int .i64 s0, .int .i64 s1, .float .f64 l, .float .f64 bu, .float .f64 cr] 30) _
  have htA : wA.there (w.heap.size + 1) 0 23 := by
    rw [hwA]
    have := there_new (w.alloc (.cells #[.int .u64 p, .float .f64 c0, .float .f64 c1, .float .f64 e0, .float .f64 e1, .int .i64 n, .float .f64 m0, .float .f64 m1, .float .f64 m2, .float .f64 o0, .float .f64 o1, .float .f64 o2, .float .f64 o3, .float .f64 o4, .float .f64 o5, .float .f64 o6, .float .f64 o7, .float .f64 o8, .int .i64 s0, .int .i64 s1, .float .f64 l, .float .f64 bu, .float .f64 cr] 30)) #[.int .u64 0, .float .f64 0, .float .f64 0, .float .f64 0, .float .f64 0, .int .i64 0, .float .f64 0, .float .f64 0, .float .f64 0, .float .f64 0, .float .f64 0, .float .f64 0, .float .f64 0, .float .f64 0, .float .f64 0, .float .f64 0, .float .f64 0, .float .f64 0, .int .i64 0, .int .i64 0, .float .f64 0, .float .f64 0, .float .f64 0] 30
    rw [World.size_alloc] at this
    exact this
  have hsA : wA.heap.size = w.heap.size + 2 := by rw [hwA]; simp
  clear hwA
  refine wp_load_mid 30 (.tmp 2) rfl w.heap.size 0 rfl [.int .u64 p, .float .f64 c0, .float .f64 c1, .float .f64 e0, .float .f64 e1, .int .i64 n, .float .f64 m0, .float .f64 m1, .float .f64 m2, .float .f64 o0, .float .f64 o1, .float .f64 o2, .float .f64 o3, .float .f64 o4, .float .f64 o5, .float .f64 o6, .float .f64 o7, .float .f64 o8, .int .i64 s0, .int .i64 s1, .float .f64 l, .float .f64 bu, .float .f64 cr] _ hrA Try.underlying30 rfl hi30 ?_
  have HTA := hid htA
  have HSA := hid hsA
  clear hrA htA hsA
  go_wp2_with fail
  refine (to_any p n s0 s1 c0 c1 e0 e1 m0 m1 m2 o0 o1 o2 o3 o4 o5 o6 o7 o8 l bu cr wA).mono ?_
  rintro e w1 ⟨rfl, hb1⟩
  have HB1 := hid hb1
  clear hb1
  dsimp only
  iterate 5 (first | go_step | go_skip | go_upon)
  refine wp_store_new 57 (.tmp 5) (.tmp 7) rfl w1.heap.size rfl _ (bm p n s0 s1 c0 c1 e0 e1 m0 m1 m2 o0 o1 o2 o3 o4 o5 o6 o7 o8 l bu cr) rfl rfl hi57 rfl (bm_one p n s0 s1 c0 c1 e0 e1 m0 m1 m2 o0 o1 o2 o3 o4 o5 o6 o7 o8 l bu cr) ?_
  obtain ⟨w2, hw2⟩ : ∃ w2, w2 = w1.alloc (.cells (bm p n s0 s1 c0 c1 e0 e1 m0 m1 m2 o0 o1 o2 o3 o4 o5 o6 o7 o8 l bu cr) 57) := ⟨_, rfl⟩
  rw [← hw2]
  have HH2 : Hid (Holds w2 w1.heap.size 0 23 (bmF p n s0 s1 c0 c1 e0 e1 m0 m1 m2 o0 o1 o2 o3 o4 o5 o6 o7 o8 l bu cr)) := by
    rw [hw2]
    exact holds_new w1 (bm p n s0 s1 c0 c1 e0 e1 m0 m1 m2 o0 o1 o2 o3 o4 o5 o6 o7 o8 l bu cr) 57 (bmF p n s0 s1 c0 c1 e0 e1 m0 m1 m2 o0 o1 o2 o3 o4 o5 o6 o7 o8 l bu cr) (fun i hi => by unfold bmF; simp [Array.getD, hi])
  have HB2 : Hid (Below w.heap.size w w2) := by
    rw [hw2]
    have h1 := HA.out.trans (HB1.out.mono HA.out.size)
    exact h1.alloc h1.size _
  have HT2 : Hid (w2.there (w.heap.size + 1) 0 23) := by
    rw [hw2]
    exact World.there_alloc (there_below HTA.out HB1.out (by rw [HSA.out]; omega)) _
  have HZ2 : Hid (w.heap.size + 2 ≤ w1.heap.size) := by have := HB1.out.size; rw [HSA.out] at this; exact this
  clear hw2 HTA HB1 HA
  go_wp2_with fail
  refine (close_any o w1.heap.size 0 p n s0 s1 l u L nf (bmF p n s0 s1 c0 c1 e0 e1 m0 m1 m2 o0 o1 o2 o3 o4 o5 o6 o7 o8 l bu cr) w2 (bmF_in hI) hV HH2.out hI.hu hn0 hn1 hnf hmax).mono ?_
  rintro e w3 ⟨rfl, hcl⟩
  obtain ⟨F', s0', s1', co', hH, hIn, hr, hK, hP⟩ := hcl
  have hr3 : w3.rangeAt w1.heap.size 0 [.int .u64 0, .float .f64 0, .float .f64 0, .float .f64 0, .float .f64 0, .int .i64 (n + 1), .float .f64 (o.mp 0), .float .f64 (o.mp 1), .float .f64 (o.mp 2), .float .f64 (co' 0), .float .f64 (co' 1), .float .f64 (co' 2), .float .f64 (co' 3), .float .f64 (co' 4), .float .f64 (co' 5), .float .f64 (co' 6), .float .f64 (co' 7), .float .f64 (co' 8), .int .i64 s0', .int .i64 s1', .float .f64 L, .float .f64 bu, .float .f64 cr] := range_of_in hIn hH bu cr (by rw [hr.1]; rfl) (by rw [hr.2]; rfl)
  have HP3 := hid hP
  have HK3 := hid hK
  clear hH hIn hr hK hP HH2
  dsimp only
  iterate 7 (first | go_step | go_skip | go_upon)
  refine wp_load_mid 57 (.tmp 5) rfl w1.heap.size 0 rfl [.int .u64 0, .float .f64 0, .float .f64 0, .float .f64 0, .float .f64 0, .int .i64 (n + 1), .float .f64 (o.mp 0), .float .f64 (o.mp 1), .float .f64 (o.mp 2), .float .f64 (co' 0), .float .f64 (co' 1), .float .f64 (co' 2), .float .f64 (co' 3), .float .f64 (co' 4), .float .f64 (co' 5), .float .f64 (co' 6), .float .f64 (co' 7), .float .f64 (co' 8), .int .i64 s0', .int .i64 s1', .float .f64 L, .float .f64 bu, .float .f64 cr] _ hr3 Try.underlying57 rfl hi57 ?_
  clear hr3
  have HZ3 : Hid (w.heap.size + 1 < w2.heap.size) := by
    have := HB2.out.size
    have h2 := World.block_lt_of_cell? w2 ⟨w.heap.size + 1, 0 + 0, none⟩ (Option.isSome_iff_exists.1 (HT2.out 0 (by omega)).1).choose_spec
    exact h2
  have HT3 : Hid (w3.there (w.heap.size + 1) 0 23) := there_kept HT2.out HK3.out HZ3.out (by have := HZ2.out; omega)
  have HB3 : Hid (Below w.heap.size w w3) := HK3.out.below HB2.out (by have := HZ2.out; omega)
  have HS3 : Hid (w.heap.size + 1 < w3.heap.size) := by have := HK3.out.size; have := HZ3.out; show _ < _; omega
  clear HT2 HB2 HK3 HZ3
  go_wp2_with fail
  refine (from_any 0 (n + 1) s0' s1' 0 0 0 0 (o.mp 0) (o.mp 1) (o.mp 2) (co' 0) (co' 1) (co' 2) (co' 3) (co' 4) (co' 5) (co' 6) (co' 7) (co' 8) L bu cr w3).mono ?_
  rintro e w4 ⟨rfl, hb4⟩
  have HB4 : Hid (Below w.heap.size w w4) := HB3.out.trans (hb4.mono HB3.out.size)
  have ht4 : w4.there (w.heap.size + 1) 0 23 := there_below HT3.out hb4 HS3.out
  clear hb4
  dsimp only
  iterate 2 (first | go_step | go_skip | go_upon)
  refine wp_store_mid 30 (.tmp 4) (.tmp 11) rfl (w.heap.size + 1) 0 (bm 0 (n + 1) s0' s1' 0 0 0 0 (o.mp 0) (o.mp 1) (o.mp 2) (co' 0) (co' 1) (co' 2) (co' 3) (co' 4) (co' 5) (co' 6) (co' 7) (co' 8) L bu cr) rfl rfl ht4 hi30 (bm_one 0 (n + 1) s0' s1' 0 0 0 0 (o.mp 0) (o.mp 1) (o.mp 2) (co' 0) (co' 1) (co' 2) (co' 3) (co' 4) (co' 5) (co' 6) (co' 7) (co' 8) L bu cr) ?_
  obtain ⟨w5, hw5⟩ : ∃ w5, w5 = w4.setCells (w.heap.size + 1) 0 (bm 0 (n + 1) s0' s1' 0 0 0 0 (o.mp 0) (o.mp 1) (o.mp 2) (co' 0) (co' 1) (co' 2) (co' 3) (co' 4) (co' 5) (co' 6) (co' 7) (co' 8) L bu cr).toList := ⟨_, rfl⟩
  rw [← hw5]
  have HB5 : Hid (Below w.heap.size w w5) := by rw [hw5]; exact below_setCells _ (by omega) _ _ _ HB4.out
  have hr5 : w5.rangeAt (w.heap.size + 1) 0 (bm 0 (n + 1) s0' s1' 0 0 0 0 (o.mp 0) (o.mp 1) (o.mp 2) (co' 0) (co' 1) (co' 2) (co' 3) (co' 4) (co' 5) (co' 6) (co' 7) (co' 8) L bu cr).toList := by rw [hw5]; exact World.rangeAt_setCells_same _ _ _ _ ht4
  clear hw5 ht4
  go_wp2
  refine ret_struct 4 30 Try.results9 (w.heap.size + 1) (bm 0 (n + 1) s0' s1' 0 0 0 0 (o.mp 0) (o.mp 1) (o.mp 2) (co' 0) (co' 1) (co' 2) (co' 3) (co' 4) (co' 5) (co' 6) (co' 7) (co' 8) L bu cr).toList _ rfl hr5 Try.underlying30 rfl (by kernel_rfl) rfl ⟨s0', s1', co', HP3.out, ?_, HB5.out⟩
  rfl

end Go.Proofs.Qxb6600900a
