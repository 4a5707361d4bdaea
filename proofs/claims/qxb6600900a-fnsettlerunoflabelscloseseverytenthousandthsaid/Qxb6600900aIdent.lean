import Derived.Test.Qxb6600900aBm
import Derived.Test.Qxb6600900aEq
import Derived.Test.Qxb6600900aStep
import Derived.Deep.Cut
namespace Go.Proofs.Qxb6600900a
open Go.RowKit
attribute [local go_sem] run_store_float

/-- 'simB1Within'. -/
def withinB (x : Nat) : Bool := (Ieee.double.order x 18318360957983683996 == some .gt || Ieee.double.order x 18318360957983683996 == some .eq) && (Ieee.double.order x 9094988921128908188 == some .lt || Ieee.double.order x 9094988921128908188 == some .eq)

theorem within_fin {x : Nat} (h : withinB x = true) : Fl.Fin x ∧ -(Fl.V 9094988921128908188) ≤ Fl.V x ∧ Fl.V x ≤ Fl.V 9094988921128908188 := by
  unfold withinB at h
  rw [Bool.and_eq_true] at h
  exact Fl.within h.1 h.2

theorem ret_boolS {a b : Bool} (h : a = b) : Ending.returned (.bool a) = .returned (.bool b) := by rw [h]

set_option maxHeartbeats 400000 in
theorem within_any (x : Nat) (w : World) : Calls Try.prog 8 #[.float .f64 x] w fun e w' => e = .returned (.bool (withinB x)) ∧ w = w' := by
  cases h : (FloatKind.f64.format.order x 18318360957983683996 == some .gt || FloatKind.f64.format.order x 18318360957983683996 == some .eq) with
  | true =>
    go_enter Try.func8, Try.ntmps8
    go_wp2
    go_ret
    refine ⟨ret_boolS ?_, rfl⟩
    unfold withinB
    rw [show Ieee.double = FloatKind.f64.format from rfl, h]
    rfl
  | false =>
    go_enter Try.func8, Try.ntmps8
    go_wp2
    go_ret
    refine ⟨ret_boolS ?_, rfl⟩
    unfold withinB
    rw [show Ieee.double = FloatKind.f64.format from rfl, h]
    rfl

set_option maxHeartbeats 800000 in
/-- Out of range: she answers at once. -/
theorem ident_out (u c0 c1 e0 e1 : Nat) (k : Int) (w : World) (h : (k < 1 ∨ 65536 < k) ∨ (withinB u = false ∨ withinB c0 = false ∨ withinB c1 = false ∨ withinB e0 = false ∨ withinB e1 = false)) :
    Calls Try.prog 3 #[.float .f64 u, .float .f64 c0, .float .f64 c1, .float .f64 e0, .float .f64 e1, .int .i64 k] w fun e w' => e = .returned (.bool true) ∧ Below w.heap.size w w' := by
  by_cases h1 : k < 1
  · go_enter Try.func3, Try.ntmps3
    go_wp2
    go_ret
    exact ⟨rfl, Below.refl _ _⟩
  by_cases h2 : 65536 < k
  · go_enter Try.func3, Try.ntmps3
    go_wp2
    go_ret
    exact ⟨rfl, Below.refl _ _⟩
  have h' : withinB u = false ∨ withinB c0 = false ∨ withinB c1 = false ∨ withinB e0 = false ∨ withinB e1 = false := by
    rcases h with h | h
    · omega
    · exact h
  clear h
  cases a0 : withinB u
  · go_enter Try.func3, Try.ntmps3
    go_wp2_with (go_at_call 8; refine (within_any _ _).mono ?_; rintro e w' ⟨rfl, rfl⟩)
    go_ret
    exact ⟨rfl, Below.refl _ _⟩
  cases a1 : withinB c0
  · go_enter Try.func3, Try.ntmps3
    go_wp2_with (go_at_call 8; refine (within_any _ _).mono ?_; rintro e w' ⟨rfl, rfl⟩)
    go_ret
    exact ⟨rfl, Below.refl _ _⟩
  cases a2 : withinB c1
  · go_enter Try.func3, Try.ntmps3
    go_wp2_with (go_at_call 8; refine (within_any _ _).mono ?_; rintro e w' ⟨rfl, rfl⟩)
    go_ret
    exact ⟨rfl, Below.refl _ _⟩
  cases a3 : withinB e0
  · go_enter Try.func3, Try.ntmps3
    go_wp2_with (go_at_call 8; refine (within_any _ _).mono ?_; rintro e w' ⟨rfl, rfl⟩)
    go_ret
    exact ⟨rfl, Below.refl _ _⟩
  cases a4 : withinB e1
  · go_enter Try.func3, Try.ntmps3
    go_wp2_with (go_at_call 8; refine (within_any _ _).mono ?_; rintro e w' ⟨rfl, rfl⟩)
    go_ret
    exact ⟨rfl, Below.refl _ _⟩
  rw [a0, a1, a2, a3, a4] at h'
  simp at h'

/-- max(l, u) of two finite words. -/
theorem max_fin {l u : Nat} (hl : Fl.Fin l) (hu : Fl.Fin u) : ∃ L, (L = l ∨ L = u) ∧ ∀ w, (Builtin.max_ #[22, 22] 22 #[.float .f64 l, .float .f64 u]).run Try.prog w = .ok (.float .f64 L) w := by
  have h : FloatKind.f64.format.order l u = some (compare (Fl.V l) (Fl.V u)) := Fl.order_fin hl hu
  cases c : compare (Fl.V l) (Fl.V u) with
  | lt => exact ⟨u, .inr rfl, fun w => by rw [c] at h; simp [Builtin.max_, Builtin.max2, h]⟩
  | gt => exact ⟨l, .inl rfl, fun w => by rw [c] at h; simp [Builtin.max_, Builtin.max2, h]⟩
  | eq =>
    refine ⟨if (FloatKind.f64.decode l).neg then u else l, ?_, fun w => by rw [c] at h; simp [Builtin.max_, Builtin.max2, h]⟩
    split
    · exact .inr rfl
    · exact .inl rfl

theorem holds_there {w : World} {b off n : Nat} {F : Nat → Value} (h : Holds w b off n F) : w.there b off n := fun j hj => ⟨by rw [h.cell j hj]; rfl, h.free j hj⟩

theorem holds_setCells {w : World} {b off n : Nat} {F : Nat → Value} (h : Holds w b off n F) (vs : List Value) (G : Nat → Value) (hv : vs.length = n) (hG : ∀ j, j < n → vs[j]? = some (G j)) : Holds (w.setCells b off vs) b off n G := by
  intro j hj
  refine ⟨?_, ?_⟩
  · have := World.rangeAt_setCells_same w b off vs (by rw [hv]; exact holds_there h) j (G j) (hG j hj)
    exact this
  · rw [World.frozen?_setCells]; exact h.free j hj

theorem holds_setCells_other {w : World} {b off n : Nat} {F : Nat → Value} (h : Holds w b off n F) (b' o' : Nat) (vs : List Value) (hb : b ≠ b') : Holds (w.setCells b' o' vs) b off n F := by
  intro j hj
  refine ⟨?_, ?_⟩
  · rw [World.cell?_setCells_out b' vs o' w ⟨b, off + j, none⟩ (fun h _ => absurd h hb)]; exact h.cell j hj
  · rw [World.frozen?_setCells]; exact h.free j hj

theorem bm_at (p n s0 s1 : Int) (c0 c1 e0 e1 m0 m1 m2 o0 o1 o2 o3 o4 o5 o6 o7 o8 l bu cr : Nat) (j : Nat) (hj : j < 23) : (bm p n s0 s1 c0 c1 e0 e1 m0 m1 m2 o0 o1 o2 o3 o4 o5 o6 o7 o8 l bu cr).toList[j]? = some (bmF p n s0 s1 c0 c1 e0 e1 m0 m1 m2 o0 o1 o2 o3 o4 o5 o6 o7 o8 l bu cr j) := by
  have hj' : j < (bm p n s0 s1 c0 c1 e0 e1 m0 m1 m2 o0 o1 o2 o3 o4 o5 o6 o7 o8 l bu cr).size := hj
  unfold bmF
  simp [Array.getD, hj']

/-- The counts and the expected values are laid anew. -/
theorem holds_laid {wr : World} {b : Nat} {p n s0 s1 : Int} {d0 d1 f0 f1 m0 m1 m2 o0 o1 o2 o3 o4 o5 o6 o7 o8 l bu cr : Nat} (h : Holds wr b 0 23 (bmF p n s0 s1 d0 d1 f0 f1 m0 m1 m2 o0 o1 o2 o3 o4 o5 o6 o7 o8 l bu cr)) (c0 c1 e0 e1 : Nat) :
    Holds ((((wr.setCell ⟨b, 1, none⟩ (.float .f64 c0)).setCell ⟨b, 2, none⟩ (.float .f64 c1)).setCell ⟨b, 3, none⟩ (.float .f64 e0)).setCell ⟨b, 4, none⟩ (.float .f64 e1)) b 0 23 (bmF p n s0 s1 c0 c1 e0 e1 m0 m1 m2 o0 o1 o2 o3 o4 o5 o6 o7 o8 l bu cr) := by
  have k1 := h.set 1 (by omega) (.float .f64 c0)
  have k2 := k1.set 2 (by omega) (.float .f64 c1)
  have k3 := k2.set 3 (by omega) (.float .f64 e0)
  have k4 := k3.set 4 (by omega) (.float .f64 e1)
  refine k4.congr fun t ht => ?_
  rcases (show t = 0 ∨ t = 1 ∨ t = 2 ∨ t = 3 ∨ t = 4 ∨ 5 ≤ t by omega) with rfl | rfl | rfl | rfl | rfl | h5
  · rfl
  · rfl
  · rfl
  · rfl
  · rfl
  · simp only [upd, show ¬ t = 4 by omega, show ¬ t = 3 by omega, show ¬ t = 2 by omega, show ¬ t = 1 by omega, if_false]
    have y1 := bm_at p n s0 s1 d0 d1 f0 f1 m0 m1 m2 o0 o1 o2 o3 o4 o5 o6 o7 o8 l bu cr t ht
    have y2 := bm_at p n s0 s1 c0 c1 e0 e1 m0 m1 m2 o0 o1 o2 o3 o4 o5 o6 o7 o8 l bu cr t ht
    obtain ⟨q, rfl⟩ : ∃ q, t = q + 5 := ⟨t - 5, by omega⟩
    unfold bm at y1 y2
    simp only [List.getElem?_cons_succ] at y1 y2
    rw [y1] at y2
    exact Option.some.inj y2

theorem ops_named (c0 c1 e0 e1 m0 m1 m2 o0 o1 o2 o3 o4 o5 o6 o7 o8 u t1 t2 x1 x2 n : Nat) (hn : n ≤ 1000000)
    (s1 : floatBits .sub .f64 c0 e0 = some t1) (s2 : floatBits .sub .f64 c1 e1 = some t2) (q1 : floatBits .quo .f64 t1 4666723172467343360 = some x1) (q2 : floatBits .quo .f64 t2 4666723172467343360 = some x2)
    (bu : Fl.Bd u) (bx1 : Fl.Bd x1) (bx2 : Fl.Bd x2) (bm : Fl.Bd m0 ∧ Fl.Bd m1 ∧ Fl.Bd m2) (h0 : n = 0 → Fl.V m0 = 0 ∧ Fl.V m1 = 0 ∧ Fl.V m2 = 0) :
    ∃ o : Ops, o.Is c0 c1 e0 e1 m0 m1 m2 o0 o1 o2 o3 o4 o5 o6 o7 o8 u ∧ o.Valid (floatOfInt .f64 ((n : Int) + 1)) ∧ o.Good n ∧ o.xs 1 = x1 ∧ o.xs 2 = x2 := by
  obtain ⟨o, Ocs, Oes, Oms, Oco, Oxs, Ov, Og⟩ := ops_exist (fun t => if t = 0 then c0 else c1) (fun t => if t = 0 then e0 else e1) (fun t => if t = 0 then m0 else if t = 1 then m1 else m2) (fun t => if t = 0 then o0 else if t = 1 then o1 else if t = 2 then o2 else if t = 3 then o3 else if t = 4 then o4 else if t = 5 then o5 else if t = 6 then o6 else if t = 7 then o7 else o8)
    (fun t => if t = 0 then u else if t = 1 then x1 else x2) (fun t => if t = 0 then t1 else t2) n hn
    (fun q hq => by rcases (show q = 0 ∨ q = 1 by omega) with rfl | rfl; exact s1; exact s2)
    (fun q hq => by rcases (show q = 0 ∨ q = 1 by omega) with rfl | rfl; exact q1; exact q2)
    (fun q hq => by rcases (show q = 0 ∨ q = 1 ∨ q = 2 by omega) with rfl | rfl | rfl; exact bu; exact bx1; exact bx2)
    (fun q hq => by rcases (show q = 0 ∨ q = 1 ∨ q = 2 by omega) with rfl | rfl | rfl; exact bm.1; exact bm.2.1; exact bm.2.2)
    (fun h q hq => by rcases (show q = 0 ∨ q = 1 ∨ q = 2 by omega) with rfl | rfl | rfl; exact (h0 h).1; exact (h0 h).2.1; exact (h0 h).2.2)
  refine ⟨o, ?_, Ov, Og, by rw [Oxs]; rfl, by rw [Oxs]; rfl⟩
  constructor <;> (first | rw [Ocs] | rw [Oes] | rw [Oms] | rw [Oco] | rw [Oxs]) <;> rfl

theorem floatEq_of {a b : Nat} (ha : Fl.Fin a) (hb : Fl.Fin b) (h : Fl.V a = Fl.V b) : Op.floatEq .f64 a b = true := by
  unfold Op.floatEq
  rw [show FloatKind.f64.format.order a b = some (compare (Fl.V a) (Fl.V b)) from Fl.order_fin ha hb, h]
  simp

theorem fin_zero : Fl.Fin 0 ∧ Fl.V 0 = 0 := ⟨by unfold Fl.Fin Fl.rung; decide, by decide⟩

/-- IDENTICAL BATCHES: the means are the batch's values; every sum of co-products stays nought. -/
theorem ident_plain {o : Ops} {n : Nat} (g : o.Good n) (hp : 0 < n → ∀ i, i < 3 → Fl.V (o.ms i) = Fl.V (o.xs i)) (hco : ∀ t, t < 9 → Fl.Fin (o.co t) ∧ Fl.V (o.co t) = 0)
    {co' : Nat → Nat} (hP : ∀ i j, i < 3 → j < 3 → ∀ r, floatBits .add .f64 (o.co (i * 3 + j)) (o.ps i j) = some r → co' (i * 3 + j) = r) :
    (∀ i, i < 3 → Fl.V (o.mp i) = Fl.V (o.xs i)) ∧ (∀ t, t < 9 → Fl.Fin (co' t) ∧ Fl.V (co' t) = 0) := by
  have hm : ∀ i, i < 3 → Fl.V (o.mp i) = Fl.V (o.xs i) := by
    intro i hi
    by_cases c : n = 0
    · exact g.first c i hi
    · have e := hp (by omega) i hi
      have a := g.up i hi (by omega)
      omega
  refine ⟨hm, fun t ht => ?_⟩
  obtain ⟨i, j, hi, hj, rfl⟩ : ∃ i j, i < 3 ∧ j < 3 ∧ t = i * 3 + j := ⟨t / 3, t % 3, by omega, by omega, by omega⟩
  have hs := g.still i j hi hj (hm j hj).symm
  have hc := hco (i * 3 + j) ht
  obtain ⟨r, er, rr⟩ := Fl.add_fin hc.1 hs.1
  rw [hP i j hi hj r er]
  rw [hc.2, hs.2] at rr
  have b := rr.between (by omega) Fl.rep_zero Fl.rep_zero (by omega) (by omega)
  exact ⟨b.1, by omega⟩

/-- What holds behind i closes. -/
def StI (w : World) (u x1 x2 : Nat) (i : Nat) (wr : World) : Prop :=
  ∃ (p s0 s1 : Int) (c0 c1 e0 e1 m0 m1 m2 o0 o1 o2 o3 o4 o5 o6 o7 o8 l bu cr : Nat), Holds wr (w.heap.size + 1) 0 23 (bmF p i s0 s1 c0 c1 e0 e1 m0 m1 m2 o0 o1 o2 o3 o4 o5 o6 o7 o8 l bu cr) ∧
    Holds wr w.heap.size 0 3 (fun t => .float .f64 (if t = 0 then u else if t = 1 then x1 else x2)) ∧ Below w.heap.size w wr ∧
    (Fl.Bd m0 ∧ Fl.Bd m1 ∧ Fl.Bd m2) ∧ (i = 0 → Fl.V m0 = 0 ∧ Fl.V m1 = 0 ∧ Fl.V m2 = 0) ∧ (0 < i → Fl.V m0 = Fl.V u ∧ Fl.V m1 = Fl.V x1 ∧ Fl.V m2 = Fl.V x2) ∧
    ((Fl.Fin o0 ∧ Fl.V o0 = 0) ∧ (Fl.Fin o1 ∧ Fl.V o1 = 0) ∧ (Fl.Fin o2 ∧ Fl.V o2 = 0) ∧ (Fl.Fin o3 ∧ Fl.V o3 = 0) ∧ (Fl.Fin o4 ∧ Fl.V o4 = 0) ∧ (Fl.Fin o5 ∧ Fl.V o5 = 0) ∧ (Fl.Fin o6 ∧ Fl.V o6 = 0) ∧ (Fl.Fin o7 ∧ Fl.V o7 = 0) ∧ (Fl.Fin o8 ∧ Fl.V o8 = 0)) ∧ Fl.Fin l

theorem stI_start (w : World) (u x1 x2 : Nat) : StI w u x1 x2 0 ((w.alloc (.cells #[.float .f64 u, .float .f64 x1, .float .f64 x2] 24)).alloc (.cells (bm 0 0 0 0 0 0 0 0 0 0 0 0 0 0 0 0 0 0 0 0 0 0 0) 30)) := by
  have z := fin_zero
  have zb : Fl.Bd 0 := ⟨z.1, by rw [z.2]; unfold Fl.BX; omega, by rw [z.2]; unfold Fl.BX; omega⟩
  have h1 := holds_new (w.alloc (.cells #[.float .f64 u, .float .f64 x1, .float .f64 x2] 24)) (bm 0 0 0 0 0 0 0 0 0 0 0 0 0 0 0 0 0 0 0 0 0 0 0) 30 (bmF 0 0 0 0 0 0 0 0 0 0 0 0 0 0 0 0 0 0 0 0 0 0 0) (fun i hi => by unfold bmF; simp [Array.getD, hi])
  rw [World.size_alloc] at h1
  have h2 := (holds_new w #[.float .f64 u, .float .f64 x1, .float .f64 x2] 24 (fun t => .float .f64 (if t = 0 then u else if t = 1 then x1 else x2)) (by
    intro i hi
    have hi' : i < 3 := hi
    rcases (show i = 0 ∨ i = 1 ∨ i = 2 by omega) with rfl | rfl | rfl <;> simp)).alloc (.cells (bm 0 0 0 0 0 0 0 0 0 0 0 0 0 0 0 0 0 0 0 0 0 0 0) 30)
  exact ⟨0, 0, 0, 0, 0, 0, 0, 0, 0, 0, 0, 0, 0, 0, 0, 0, 0, 0, 0, 0, 0, 0, h1, h2, ((Below.refl _ _).alloc (Nat.le_refl _) _).alloc (by simp) _, ⟨zb, zb, zb⟩, fun _ => ⟨z.2, z.2, z.2⟩, fun h => absurd h (by omega), ⟨z, z, z, z, z, z, z, z, z⟩, z.1⟩

set_option maxHeartbeats 1600000 in
theorem ident_in (u c0 c1 e0 e1 t1 t2 x1 x2 : Nat) (k : Int) (w : World) (hk1 : 1 ≤ k) (hk2 : k ≤ 65536) (a0 : withinB u = true) (a1 : withinB c0 = true) (a2 : withinB c1 = true) (a3 : withinB e0 = true) (a4 : withinB e1 = true)
    (s1 : floatBits .sub .f64 c0 e0 = some t1) (s2 : floatBits .sub .f64 c1 e1 = some t2) (q1 : floatBits .quo .f64 t1 4666723172467343360 = some x1) (q2 : floatBits .quo .f64 t2 4666723172467343360 = some x2) (bx1 : Fl.Bd x1) (bx2 : Fl.Bd x2) :
    Calls Try.prog 3 #[.float .f64 u, .float .f64 c0, .float .f64 c1, .float .f64 e0, .float .f64 e1, .int .i64 k] w fun e w' => e = .returned (.bool true) ∧ Below w.heap.size w w' := by
  have r1 := fun w => run_float_arith (P := Try.prog) w .sub 22 .f64 c0 e0 t1 s1
  have r2 := fun w => run_float_arith (P := Try.prog) w .sub 22 .f64 c1 e1 t2 s2
  have r3 := fun w => run_float_arith (P := Try.prog) w .quo 22 .f64 t1 4666723172467343360 x1 q1
  have r4 := fun w => run_float_arith (P := Try.prog) w .quo 22 .f64 t2 4666723172467343360 x2 q2
  have BX1 := hid bx1
  have BX2 := hid bx2
  have S1 := hid s1
  have S2 := hid s2
  have Q1 := hid q1
  have Q2 := hid q2
  clear s1 s2 q1 q2 bx1 bx2
  go_enter Try.func3, Try.ntmps3
  go_wp2_with (go_at_call 8; refine (within_any _ _).mono ?_; rintro e w' ⟨rfl, rfl⟩)
  clear r1 r2 r3 r4
  have HSt : Hid (StI w u x1 x2 0 ((w.alloc (.cells #[.float .f64 u, .float .f64 x1, .float .f64 x2] 24)).alloc (.cells (bm 0 0 0 0 0 0 0 0 0 0 0 0 0 0 0 0 0 0 0 0 0 0 0) 30))) := stI_start w u x1 x2
  go_loopw [15] (fun v wr => ∃ i : Nat, (i : Int) ≤ k ∧ v = .int .i64 i ∧ Hid (StI w u x1 x2 i wr)) (fun v _ => (k - intOf v).toNat)
  case atStart => exact ⟨0, by omega, rfl, HSt⟩
  case round =>
    clear HSt
    obtain ⟨i, hi, rfl, HI⟩ := hrel
    by_cases hlt : (i : Int) < k
    · obtain ⟨p, s0, s1, d0, d1, f0, f1, m0, m1, m2, o0, o1, o2, o3, o4, o5, o6, o7, o8, l, bu, cr, hH, hX, hB, hbm, hz, hp, ho, hl⟩ := HI.out
      have g1 := hH.cell 1 (by omega)
      have g2 := hH.cell 2 (by omega)
      have g3 := hH.cell 3 (by omega)
      have g4 := hH.cell 4 (by omega)
      have f1' := hH.free 1 (by omega)
      have f2' := hH.free 2 (by omega)
      have f3' := hH.free 3 (by omega)
      have f4' := hH.free 4 (by omega)
      rw [Nat.zero_add] at g1 g2 g3 g4 f1' f2' f3' f4'
      have HH := hid hH
      have HX := hid hX
      have HB := hid hB
      clear hH hX hB HI
      have HBM := hid hbm
      have HZ := hid hz
      have HPS := hid hp
      have HO := hid ho
      have HL := hid hl
      clear hbm hz hp ho hl
      go_upto_region 12 with fail
      obtain ⟨w2, hw2⟩ : ∃ w2, w2 = ((((wr.setCell ⟨w.heap.size + 1, 1, none⟩ (.float .f64 c0)).setCell ⟨w.heap.size + 1, 2, none⟩ (.float .f64 c1)).setCell ⟨w.heap.size + 1, 3, none⟩ (.float .f64 e0)).setCell ⟨w.heap.size + 1, 4, none⟩ (.float .f64 e1)) := ⟨_, rfl⟩
      rw [← hw2]
      have hH2 : Holds w2 (w.heap.size + 1) 0 23 (bmF p i s0 s1 c0 c1 e0 e1 m0 m1 m2 o0 o1 o2 o3 o4 o5 o6 o7 o8 l bu cr) := by rw [hw2]; exact holds_laid HH.out c0 c1 e0 e1
      have HX2 : Hid (Holds w2 w.heap.size 0 3 (fun t => .float .f64 (if t = 0 then u else if t = 1 then x1 else x2))) := by
        rw [hw2]; exact (((HX.out.other _ (by show w.heap.size + 1 ≠ w.heap.size; omega) _).other _ (by show w.heap.size + 1 ≠ w.heap.size; omega) _).other _ (by show w.heap.size + 1 ≠ w.heap.size; omega) _).other _ (by show w.heap.size + 1 ≠ w.heap.size; omega) _
      have HB2 : Hid (Below w.heap.size w w2) := by
        rw [hw2]; exact (((HB.out.setCell (by show w.heap.size ≤ w.heap.size + 1; omega) _).setCell (by show w.heap.size ≤ w.heap.size + 1; omega) _).setCell (by show w.heap.size ≤ w.heap.size + 1; omega) _).setCell (by show w.heap.size ≤ w.heap.size + 1; omega) _
      clear hw2 HH HX HB g1 g2 g3 g4 f1' f2' f3' f4'
      obtain ⟨L, hL, hmax⟩ := max_fin HL.out (within_fin a0).1
      have HLL : Hid (Fl.Fin L) := by rcases hL with rfl | rfl; exact HL.out; exact (within_fin a0).1
      clear hL
      obtain ⟨o, OIs, Ov, Og, Ox1, Ox2⟩ := ops_named c0 c1 e0 e1 m0 m1 m2 o0 o1 o2 o3 o4 o5 o6 o7 o8 u t1 t2 x1 x2 i (by omega) S1.out S2.out Q1.out Q2.out (Fl.bd_within (within_fin a0)) BX1.out BX2.out HBM.out HZ.out
      have hr2 : w2.rangeAt (w.heap.size + 1) 0 [.int .u64 p, .float .f64 c0, .float .f64 c1, .float .f64 e0, .float .f64 e1, .int .i64 (i : Int), .float .f64 m0, .float .f64 m1, .float .f64 m2, .float .f64 o0, .float .f64 o1, .float .f64 o2, .float .f64 o3, .float .f64 o4, .float .f64 o5, .float .f64 o6, .float .f64 o7, .float .f64 o8, .int .i64 s0, .int .i64 s1, .float .f64 l, .float .f64 bu, .float .f64 cr] := by
        intro j v hj
        have hlt : j < 23 := (List.getElem?_eq_some_iff.1 hj).1
        have e := bm_at p i s0 s1 c0 c1 e0 e1 m0 m1 m2 o0 o1 o2 o3 o4 o5 o6 o7 o8 l bu cr j hlt
        rw [hH2.cell j hlt, ← e]
        exact hj
      iterate 2 (first | go_step | go_skip | go_upon)
      refine wp_load_mid 30 (.tmp 14) rfl (w.heap.size + 1) 0 rfl [.int .u64 p, .float .f64 c0, .float .f64 c1, .float .f64 e0, .float .f64 e1, .int .i64 (i : Int), .float .f64 m0, .float .f64 m1, .float .f64 m2, .float .f64 o0, .float .f64 o1, .float .f64 o2, .float .f64 o3, .float .f64 o4, .float .f64 o5, .float .f64 o6, .float .f64 o7, .float .f64 o8, .int .i64 s0, .int .i64 s1, .float .f64 l, .float .f64 bu, .float .f64 cr] _ hr2 Try.underlying30 rfl (by kernel_rfl) ?_
      have HH2 := hid hH2
      have HMX := hid hmax
      have HOV := hid Ov
      have HOG := hid Og
      have HOI := hid OIs
      have HX1 := hid Ox1
      have HX22 := hid Ox2
      clear hr2 hH2 hmax Ov Og OIs Ox1 Ox2
      go_wp2_with fail
      refine (bmclose_any o p i s0 s1 c0 c1 e0 e1 m0 m1 m2 o0 o1 o2 o3 o4 o5 o6 o7 o8 l bu cr u L _ w2 HOI.out HOV.out (by omega) (by omega) rfl HMX.out).mono ?_
      rintro e w3 ⟨s0', s1', co', hP, rfl, hb3⟩
      have HPP : Hid ((∀ i, i < 3 → Fl.V (o.mp i) = Fl.V (o.xs i)) ∧ (∀ t, t < 9 → Fl.Fin (co' t) ∧ Fl.V (co' t) = 0)) := by
        refine ident_plain HOG.out (fun h q hq => ?_) (fun t ht => ?_) hP
        · rcases (show q = 0 ∨ q = 1 ∨ q = 2 by omega) with rfl | rfl | rfl
          · rw [HOI.out.hm0, HOI.out.hu]; exact (HPS.out h).1
          · rw [HOI.out.hm1, HX1.out]; exact (HPS.out h).2.1
          · rw [HOI.out.hm2, HX22.out]; exact (HPS.out h).2.2
        · obtain ⟨z0, z1, z2, z3, z4, z5, z6, z7, z8⟩ := HO.out
          rcases (show t = 0 ∨ t = 1 ∨ t = 2 ∨ t = 3 ∨ t = 4 ∨ t = 5 ∨ t = 6 ∨ t = 7 ∨ t = 8 by omega) with rfl | rfl | rfl | rfl | rfl | rfl | rfl | rfl | rfl
          · rw [HOI.out.ho0]; exact z0
          · rw [HOI.out.ho1]; exact z1
          · rw [HOI.out.ho2]; exact z2
          · rw [HOI.out.ho3]; exact z3
          · rw [HOI.out.ho4]; exact z4
          · rw [HOI.out.ho5]; exact z5
          · rw [HOI.out.ho6]; exact z6
          · rw [HOI.out.ho7]; exact z7
          · rw [HOI.out.ho8]; exact z8
      have HBP : Hid (∀ q, q < 3 → Fl.Bd (o.mp q)) := HOG.out.bm
      obtain ⟨b0, hb0⟩ : ∃ b0, b0 = o.mp 0 := ⟨_, rfl⟩
      obtain ⟨b1, hb1⟩ : ∃ b1, b1 = o.mp 1 := ⟨_, rfl⟩
      obtain ⟨b2, hb2⟩ : ∃ b2, b2 = o.mp 2 := ⟨_, rfl⟩
      rw [← hb0, ← hb1, ← hb2]
      have V0 : Fl.Bd b0 ∧ Fl.V b0 = Fl.V u := by rw [hb0]; exact ⟨HBP.out 0 (by omega), (HPP.out.1 0 (by omega)).trans (by rw [HOI.out.hu])⟩
      have V1 : Fl.Bd b1 ∧ Fl.V b1 = Fl.V x1 := by rw [hb1]; exact ⟨HBP.out 1 (by omega), (HPP.out.1 1 (by omega)).trans (by rw [HX1.out])⟩
      have V2 : Fl.Bd b2 ∧ Fl.V b2 = Fl.V x2 := by rw [hb2]; exact ⟨HBP.out 2 (by omega), (HPP.out.1 2 (by omega)).trans (by rw [HX22.out])⟩
      have hq24 : ∀ w, (binOp .neq 24 (.agg #[.float .f64 b0, .float .f64 b1, .float .f64 b2]) (.agg #[.float .f64 u, .float .f64 x1, .float .f64 x2])).run Try.prog w = .ok (.bool false) w := fun w =>
        run_neq24 b0 b1 b2 u x1 x2 w (floatEq_of V0.1.1 (within_fin a0).1 V0.2) (floatEq_of V1.1.1 BX1.out.1 V1.2) (floatEq_of V2.1.1 BX2.out.1 V2.2)
      have hq27 : ∀ w, (binOp .neq 27 (.agg #[.float .f64 (co' 0), .float .f64 (co' 1), .float .f64 (co' 2), .float .f64 (co' 3), .float .f64 (co' 4), .float .f64 (co' 5), .float .f64 (co' 6), .float .f64 (co' 7), .float .f64 (co' 8)]) (.agg #[.float .f64 0, .float .f64 0, .float .f64 0, .float .f64 0, .float .f64 0, .float .f64 0, .float .f64 0, .float .f64 0, .float .f64 0])).run Try.prog w = .ok (.bool false) w := fun w =>
        run_neq27 co' (fun _ => 0) w (fun t ht => floatEq_of (HPP.out.2 t ht).1 fin_zero.1 ((HPP.out.2 t ht).2.trans fin_zero.2.symm))
      have hs2 : w.heap.size + 1 < w2.heap.size := HH2.out.lt (by omega)
      have hH3 : Holds w3 (w.heap.size + 1) 0 23 (bmF p i s0 s1 c0 c1 e0 e1 m0 m1 m2 o0 o1 o2 o3 o4 o5 o6 o7 o8 l bu cr) := HH2.out.below hb3 hs2
      have hX3 : Holds w3 w.heap.size 0 3 (fun t => .float .f64 (if t = 0 then u else if t = 1 then x1 else x2)) := HX2.out.below hb3 (by omega)
      have hB3 : Below w.heap.size w w3 := HB2.out.trans (hb3.mono HB2.out.size)
      have HV0 := hid V0
      have HV1 := hid V1
      have HV2 := hid V2
      have HPC : Hid (∀ t, t < 9 → Fl.Fin (co' t) ∧ Fl.V (co' t) = 0) := HPP.out.2
      have HQ24 := hid hq24
      have HQ27 := hid hq27
      have HH3 := hid hH3
      have HX3 := hid hX3
      have HB3 := hid hB3
      clear V0 V1 V2 hq24 hq27 hH3 hX3 hB3 hb3 hb0 hb1 hb2 hP HPP HBP HOG HOV HOI HX1 HX22 HH2 HX2 HB2 HBM HZ HPS HO HL HMX
      dsimp only
      iterate 2 (first | go_step | go_skip | go_upon)
      refine wp_store_mid 30 (.tmp 14) (.tmp 70) rfl (w.heap.size + 1) 0 (bm 0 ((i : Int) + 1) s0' s1' 0 0 0 0 b0 b1 b2 (co' 0) (co' 1) (co' 2) (co' 3) (co' 4) (co' 5) (co' 6) (co' 7) (co' 8) L bu cr) rfl rfl (holds_there HH3.out) (by kernel_rfl) (bm_one 0 ((i : Int) + 1) s0' s1' 0 0 0 0 b0 b1 b2 (co' 0) (co' 1) (co' 2) (co' 3) (co' 4) (co' 5) (co' 6) (co' 7) (co' 8) L bu cr) ?_
      obtain ⟨w4, hw4⟩ : ∃ w4, w4 = w3.setCells (w.heap.size + 1) 0 (bm 0 ((i : Int) + 1) s0' s1' 0 0 0 0 b0 b1 b2 (co' 0) (co' 1) (co' 2) (co' 3) (co' 4) (co' 5) (co' 6) (co' 7) (co' 8) L bu cr).toList := ⟨_, rfl⟩
      rw [← hw4]
      have hH4 : Holds w4 (w.heap.size + 1) 0 23 (bmF 0 ((i : Int) + 1) s0' s1' 0 0 0 0 b0 b1 b2 (co' 0) (co' 1) (co' 2) (co' 3) (co' 4) (co' 5) (co' 6) (co' 7) (co' 8) L bu cr) := by rw [hw4]; exact holds_setCells HH3.out _ _ rfl (fun j hj => bm_at 0 ((i : Int) + 1) s0' s1' 0 0 0 0 b0 b1 b2 (co' 0) (co' 1) (co' 2) (co' 3) (co' 4) (co' 5) (co' 6) (co' 7) (co' 8) L bu cr j hj)
      have hX4 : Holds w4 w.heap.size 0 3 (fun t => .float .f64 (if t = 0 then u else if t = 1 then x1 else x2)) := by rw [hw4]; exact holds_setCells_other HX3.out _ _ _ (by omega)
      have hB4 : Below w.heap.size w w4 := by rw [hw4]; exact below_setCells _ (by omega) _ _ _ HB3.out
      have g6 : w4.cell? ⟨w.heap.size + 1, 6, none⟩ = some (.float .f64 b0) := hH4.cell 6 (by omega)
      have g7 : w4.cell? ⟨w.heap.size + 1, 7, none⟩ = some (.float .f64 b1) := hH4.cell 7 (by omega)
      have g8 : w4.cell? ⟨w.heap.size + 1, 8, none⟩ = some (.float .f64 b2) := hH4.cell 8 (by omega)
      have g9 : w4.cell? ⟨w.heap.size + 1, 9, none⟩ = some (.float .f64 (co' 0)) := hH4.cell 9 (by omega)
      have g10 : w4.cell? ⟨w.heap.size + 1, 10, none⟩ = some (.float .f64 (co' 1)) := hH4.cell 10 (by omega)
      have g11 : w4.cell? ⟨w.heap.size + 1, 11, none⟩ = some (.float .f64 (co' 2)) := hH4.cell 11 (by omega)
      have g12 : w4.cell? ⟨w.heap.size + 1, 12, none⟩ = some (.float .f64 (co' 3)) := hH4.cell 12 (by omega)
      have g13 : w4.cell? ⟨w.heap.size + 1, 13, none⟩ = some (.float .f64 (co' 4)) := hH4.cell 13 (by omega)
      have g14 : w4.cell? ⟨w.heap.size + 1, 14, none⟩ = some (.float .f64 (co' 5)) := hH4.cell 14 (by omega)
      have g15 : w4.cell? ⟨w.heap.size + 1, 15, none⟩ = some (.float .f64 (co' 6)) := hH4.cell 15 (by omega)
      have g16 : w4.cell? ⟨w.heap.size + 1, 16, none⟩ = some (.float .f64 (co' 7)) := hH4.cell 16 (by omega)
      have g17 : w4.cell? ⟨w.heap.size + 1, 17, none⟩ = some (.float .f64 (co' 8)) := hH4.cell 17 (by omega)
      have y0 : w4.cell? ⟨w.heap.size, 0, none⟩ = some (.float .f64 u) := hX4.cell 0 (by omega)
      have y1 : w4.cell? ⟨w.heap.size, 1, none⟩ = some (.float .f64 x1) := hX4.cell 1 (by omega)
      have y2 : w4.cell? ⟨w.heap.size, 2, none⟩ = some (.float .f64 x2) := hX4.cell 2 (by omega)
      have hq24 := HQ24.out
      have hq27 := HQ27.out
      have HST : Hid (StI w u x1 x2 (i + 1) w4) := ⟨_, _, _, _, _, _, _, _, _, _, _, _, _, _, _, _, _, _, _, _, _, _, hH4, hX4, hB4, ⟨HV0.out.1, HV1.out.1, HV2.out.1⟩, fun h => absurd h (by omega), fun _ => ⟨HV0.out.2, HV1.out.2, HV2.out.2⟩, ⟨HPC.out 0 (by omega), HPC.out 1 (by omega), HPC.out 2 (by omega), HPC.out 3 (by omega), HPC.out 4 (by omega), HPC.out 5 (by omega), HPC.out 6 (by omega), HPC.out 7 (by omega), HPC.out 8 (by omega)⟩, HLL.out⟩
      clear hw4 hH4 hX4 hB4 HQ24 HQ27 HH3 HX3 HB3 HV0 HV1 HV2 HPC HLL
      go_wp2
      go_roundw
      case rel => exact ⟨i + 1, by omega, by go_num, HST⟩
      case measure => simp [intOf]; omega
    · go_wp2
      go_ret
      exact ⟨rfl, by obtain ⟨p, s0, s1, d0, d1, f0, f1, m0, m1, m2, o0, o1, o2, o3, o4, o5, o6, o7, o8, l, bu, cr, hH, hX, hB, _⟩ := HI.out; exact hB⟩

theorem ident_walk (u c0 c1 e0 e1 : Nat) (k : Int) (w : World) :
    Calls Try.prog 3 #[.float .f64 u, .float .f64 c0, .float .f64 c1, .float .f64 e0, .float .f64 e1, .int .i64 k] w fun e w' => e = .returned (.bool true) ∧ Below w.heap.size w w' := by
  by_cases h : (k < 1 ∨ 65536 < k) ∨ (withinB u = false ∨ withinB c0 = false ∨ withinB c1 = false ∨ withinB e0 = false ∨ withinB e1 = false)
  · exact ident_out u c0 c1 e0 e1 k w h
  · have hk : 1 ≤ k ∧ k ≤ 65536 := by omega
    have a0 : withinB u = true := by cases c : withinB u with | true => rfl | false => exact absurd (.inr (.inl c)) h
    have a1 : withinB c0 = true := by cases c : withinB c0 with | true => rfl | false => exact absurd (.inr (.inr (.inl c))) h
    have a2 : withinB c1 = true := by cases c : withinB c1 with | true => rfl | false => exact absurd (.inr (.inr (.inr (.inl c)))) h
    have a3 : withinB e0 = true := by cases c : withinB e0 with | true => rfl | false => exact absurd (.inr (.inr (.inr (.inr (.inl c))))) h
    have a4 : withinB e1 = true := by cases c : withinB e1 with | true => rfl | false => exact absurd (.inr (.inr (.inr (.inr (.inr c))))) h
    obtain ⟨t1, x1, s1, q1, b1⟩ := Fl.dev_step (within_fin a1) (within_fin a3)
    obtain ⟨t2, x2, s2, q2, b2⟩ := Fl.dev_step (within_fin a2) (within_fin a4)
    exact ident_in u c0 c1 e0 e1 t1 t2 x1 x2 k w hk.1 hk.2 a0 a1 a2 a3 a4 s1 s2 q1 q2 b1 b2

end Go.Proofs.Qxb6600900a
