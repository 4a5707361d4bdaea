import Derived.Test.Qxb6600900aMem
namespace Go.Proofs.Qxb6600900a
open Go.RowKit
set_option linter.unusedSimpArgs false

/-- The words of a batch's means as they come in, and what each operation gives. -/
structure Ops where
  cs : Nat → Nat
  es : Nat → Nat
  ms : Nat → Nat
  co : Nat → Nat
  xs : Nat → Nat
  ts : Nat → Nat
  ds : Nat → Nat
  qs : Nat → Nat
  mp : Nat → Nat
  gs : Nat → Nat
  ps : Nat → Nat → Nat

structure Ops.Valid (o : Ops) (nf : Nat) : Prop where
  hT : ∀ k, k < 2 → floatBits .sub .f64 (o.cs k) (o.es k) = some (o.ts k)
  hX : ∀ k, k < 2 → floatBits .quo .f64 (o.ts k) 4666723172467343360 = some (o.xs (1 + k))
  hD : ∀ i, i < 3 → floatBits .sub .f64 (o.xs i) (o.ms i) = some (o.ds i)
  hQ : ∀ i, i < 3 → floatBits .quo .f64 (o.ds i) nf = some (o.qs i)
  hM : ∀ i, i < 3 → floatBits .add .f64 (o.ms i) (o.qs i) = some (o.mp i)
  hG : ∀ j, j < 3 → floatBits .sub .f64 (o.xs j) (o.mp j) = some (o.gs j)
  hP : ∀ i j, i < 3 → j < 3 → floatBits .mul .f64 (o.ds i) (o.gs j) = some (o.ps i j)

/-- The 23 cells as they come in. -/
structure Ops.In (o : Ops) (p n s0 s1 : Int) (l : Nat) (F : Nat → Value) : Prop where
  c0 : F 0 = .int .u64 p
  c1 : ∀ k, k < 2 → F (1 + k) = .float .f64 (o.cs k)
  c3 : ∀ k, k < 2 → F (3 + k) = .float .f64 (o.es k)
  c5 : F 5 = .int .i64 n
  c6 : ∀ i, i < 3 → F (6 + i) = .float .f64 (o.ms i)
  c9 : ∀ t, t < 9 → F (9 + t) = .float .f64 (o.co t)
  c18 : F 18 = .int .i64 s0
  c19 : F 19 = .int .i64 s1
  c20 : F 20 = .float .f64 l

/-- What holds at the head of the first loop's k-th round. -/
def Inv1 (o : Ops) (b off : Nat) (p n : Int) (L : Nat) (F : Nat → Value) (w : World) (k : Nat) (wr : World) : Prop :=
  ∃ F' s0' s1', Holds wr b off 23 F' ∧ o.In p n s0' s1' L F' ∧ (F' 21 = F 21 ∧ F' 22 = F 22) ∧ Holds wr w.heap.size 0 3 (fun t => .float .f64 (if t ≤ k then o.xs t else 0)) ∧ Kept b off 23 w wr ∧ w.heap.size + 1 = wr.heap.size

theorem Ops.In.upd20 {o : Ops} {p n s0 s1 : Int} {l : Nat} {F : Nat → Value} (h : o.In p n s0 s1 l F) (L : Nat) : o.In p n s0 s1 L (upd F 20 (.float .f64 L)) where
  c0 := by simp [upd, h.c0]
  c1 := fun k hk => by simp [upd, show ¬ 1 + k = 20 by omega, h.c1 k hk]
  c3 := fun k hk => by simp [upd, show ¬ 3 + k = 20 by omega, h.c3 k hk]
  c5 := by simp [upd, h.c5]
  c6 := fun k hk => by simp [upd, show ¬ 6 + k = 20 by omega, h.c6 k hk]
  c9 := fun k hk => by simp [upd, show ¬ 9 + k = 20 by omega, h.c9 k hk]
  c18 := by simp [upd, h.c18]
  c19 := by simp [upd, h.c19]
  c20 := by simp [upd]

theorem Ops.In.upd18 {o : Ops} {p n s0 s1 : Int} {l : Nat} {F : Nat → Value} (h : o.In p n s0 s1 l F) (j : Nat) (hj : j < 2) (z : Int) : o.In p n (if j = 0 then z else s0) (if j = 1 then z else s1) l (upd F (18 + j) (.int .i64 z)) where
  c0 := by simp [upd, show ¬ 0 = 18 + j by omega, h.c0]
  c1 := fun k hk => by simp [upd, show ¬ 1 + k = 18 + j by omega, h.c1 k hk]
  c3 := fun k hk => by simp [upd, show ¬ 3 + k = 18 + j by omega, h.c3 k hk]
  c5 := by simp [upd, show ¬ 5 = 18 + j by omega, h.c5]
  c6 := fun k hk => by simp [upd, show ¬ 6 + k = 18 + j by omega, h.c6 k hk]
  c9 := fun k hk => by simp [upd, show ¬ 9 + k = 18 + j by omega, h.c9 k hk]
  c18 := by
    by_cases e : j = 0
    · subst e; simp [upd]
    · simp [upd, show ¬ 18 = 18 + j by omega, e, h.c18]
  c19 := by
    by_cases e : j = 1
    · subst e; simp [upd]
    · simp [upd, show ¬ 19 = 18 + j by omega, e, h.c19]
  c20 := by simp [upd, show ¬ 20 = 18 + j by omega, h.c20]

theorem Ops.In.seen {o : Ops} {p n s0 s1 : Int} {l : Nat} {F : Nat → Value} (h : o.In p n s0 s1 l F) (j : Nat) (hj : j < 2) : ∃ s, F (18 + j) = .int .i64 s := by
  rcases (show j = 0 ∨ j = 1 by omega) with rfl | rfl
  · exact ⟨_, h.c18⟩
  · exact ⟨_, h.c19⟩

theorem inv1_start {o : Ops} {b off : Nat} {p n s0 s1 : Int} {l u L : Nat} {F : Nat → Value} {w : World} (hF : o.In p n s0 s1 l F) (hH : Holds w b off 23 F) (hu : o.xs 0 = u) :
    Inv1 o b off p n L F w 0 ((w.setCell ⟨b, off + 20, none⟩ (.float .f64 L)).alloc (.cells #[.float .f64 u, .float .f64 0, .float .f64 0] 24)) := by
  have hb := hH.lt (by omega)
  refine ⟨upd F 20 (.float .f64 L), s0, s1, (hH.set 20 (by omega) _).alloc _, hF.upd20 L, ⟨by simp [upd], by simp [upd]⟩, ?_, ((Kept.refl _ _ _ _).set 20 (by omega) _).alloc hb _, by simp [World.setCell]⟩
  have := holds_new (w.setCell ⟨b, off + 20, none⟩ (.float .f64 L)) #[.float .f64 u, .float .f64 0, .float .f64 0] 24 (fun t => .float .f64 (if t ≤ 0 then o.xs t else 0)) (by
    intro i hi
    have hi' : i < 3 := hi
    rcases (show i = 0 ∨ i = 1 ∨ i = 2 by omega) with rfl | rfl | rfl
    · simp [hu]
    · simp
    · simp)
  simpa [World.setCell] using this

theorem inv1_step {o : Ops} {b off : Nat} {p n : Int} {L : Nat} {F : Nat → Value} {w wr : World} {k x : Nat} (hb : b < w.heap.size) (h : Inv1 o b off p n L F w k wr) (hk : k < 2) (hx : x = o.xs (1 + k)) :
    Inv1 o b off p n L F w (k + 1) (wr.setCell ⟨w.heap.size, 1 + k, none⟩ (.float .f64 x)).drew := by
  obtain ⟨F', s0', s1', hH, hI, hr, hX, hK, hz⟩ := h
  refine ⟨F', s0', s1', (hH.other _ (by show w.heap.size ≠ b; omega) _).drew, hI, hr, ?_, (hK.setNew hb (Nat.le_refl _) _).drew, by simpa [World.setCell] using hz⟩
  have := hX.set (1 + k) (by omega) (.float .f64 x)
  rw [Nat.zero_add] at this
  refine (this.congr fun t ht => ?_).drew
  unfold upd
  by_cases e : t = 1 + k
  · subst e; rw [if_pos rfl, if_pos (by omega), hx]
  · rw [if_neg e]; dsimp only
    by_cases c : t ≤ k
    · rw [if_pos c, if_pos (by omega)]
    · rw [if_neg c, if_neg (by omega)]

theorem inv1_seen {o : Ops} {b off : Nat} {p n : Int} {L : Nat} {F : Nat → Value} {w wr : World} {k : Nat} (hb : b < w.heap.size) (h : Inv1 o b off p n L F w k wr) (j : Nat) (hj : j < 2) (z : Int) :
    Inv1 o b off p n L F w k (wr.setCell ⟨b, off + 18 + j, none⟩ (.int .i64 z)).drew := by
  obtain ⟨F', s0', s1', hH, hI, hr, hX, hK, hz⟩ := h
  rw [Nat.add_assoc]
  exact ⟨_, _, _, (hH.set (18 + j) (by omega) _).drew, hI.upd18 j hj z, ⟨by simp [upd, show ¬ 21 = 18 + j by omega, hr.1], by simp [upd, show ¬ 22 = 18 + j by omega, hr.2]⟩, (hX.other _ (by show b ≠ w.heap.size; omega) _).drew, (hK.set (18 + j) (by omega) _).drew, by simpa [World.setCell] using hz⟩

theorem Ops.In.upd5 {o : Ops} {p n s0 s1 : Int} {l : Nat} {F : Nat → Value} (h : o.In p n s0 s1 l F) (z : Int) : o.In p z s0 s1 l (upd F 5 (.int .i64 z)) where
  c0 := by simp [upd, h.c0]
  c1 := fun k hk => by simp [upd, show ¬ 1 + k = 5 by omega, h.c1 k hk]
  c3 := fun k hk => by simp [upd, show ¬ 3 + k = 5 by omega, h.c3 k hk]
  c5 := by simp [upd]
  c6 := fun k hk => by simp [upd, show ¬ 6 + k = 5 by omega, h.c6 k hk]
  c9 := fun k hk => by simp [upd, show ¬ 9 + k = 5 by omega, h.c9 k hk]
  c18 := by simp [upd, h.c18]
  c19 := by simp [upd, h.c19]
  c20 := by simp [upd, h.c20]

theorem Ops.In.upd6 {o : Ops} {p n s0 s1 : Int} {l : Nat} {F : Nat → Value} (h : o.In p n s0 s1 l F) (j : Nat) (hj : j < 3) (z : Nat) (ms' : Nat → Nat) (hm : ∀ i, i < 3 → ms' i = if i = j then z else o.ms i) :
    ({ o with ms := ms' } : Ops).In p n s0 s1 l (upd F (6 + j) (.float .f64 z)) where
  c0 := by simp [upd, show ¬ 0 = 6 + j by omega, h.c0]
  c1 := fun k hk => by simp [upd, show ¬ 1 + k = 6 + j by omega, h.c1 k hk]
  c3 := fun k hk => by simp [upd, show ¬ 3 + k = 6 + j by omega, h.c3 k hk]
  c5 := by simp [upd, show ¬ 5 = 6 + j by omega, h.c5]
  c6 := fun k hk => by
    by_cases e : k = j
    · subst e; simp [upd, hm k hk]
    · simp [upd, show ¬ 6 + k = 6 + j by omega, h.c6 k hk, hm k hk, e]
  c9 := fun k hk => by simp [upd, show ¬ 9 + k = 6 + j by omega, h.c9 k hk]
  c18 := by simp [upd, show ¬ 18 = 6 + j by omega, h.c18]
  c19 := by simp [upd, show ¬ 19 = 6 + j by omega, h.c19]
  c20 := by simp [upd, show ¬ 20 = 6 + j by omega, h.c20]

theorem Ops.In.upd9 {o : Ops} {p n s0 s1 : Int} {l : Nat} {F : Nat → Value} (h : o.In p n s0 s1 l F) (j : Nat) (hj : j < 9) (z : Nat) (co' : Nat → Nat) (hm : ∀ i, i < 9 → co' i = if i = j then z else o.co i) :
    ({ o with co := co' } : Ops).In p n s0 s1 l (upd F (9 + j) (.float .f64 z)) where
  c0 := by simp [upd, show ¬ 0 = 9 + j by omega, h.c0]
  c1 := fun k hk => by simp [upd, show ¬ 1 + k = 9 + j by omega, h.c1 k hk]
  c3 := fun k hk => by simp [upd, show ¬ 3 + k = 9 + j by omega, h.c3 k hk]
  c5 := by simp [upd, show ¬ 5 = 9 + j by omega, h.c5]
  c6 := fun k hk => by simp [upd, show ¬ 6 + k = 9 + j by omega, h.c6 k hk]
  c9 := fun k hk => by
    by_cases e : k = j
    · subst e; simp [upd, hm k hk]
    · simp [upd, show ¬ 9 + k = 9 + j by omega, h.c9 k hk, hm k hk, e]
  c18 := by simp [upd, show ¬ 18 = 9 + j by omega, h.c18]
  c19 := by simp [upd, show ¬ 19 = 9 + j by omega, h.c19]
  c20 := by simp [upd, show ¬ 20 = 9 + j by omega, h.c20]

/-- What holds at the head of the second loop's k-th round. -/
def Inv2 (o : Ops) (b off : Nat) (p n : Int) (L : Nat) (F : Nat → Value) (w : World) (k : Nat) (wr : World) : Prop :=
  ∃ F' s0' s1', Holds wr b off 23 F' ∧ ({ o with ms := fun i => if i < k then o.mp i else o.ms i } : Ops).In p (n + 1) s0' s1' L F' ∧ (F' 21 = F 21 ∧ F' 22 = F 22) ∧ Holds wr w.heap.size 0 3 (fun t => .float .f64 (o.xs t)) ∧ Holds wr (w.heap.size + 1) 0 3 (fun t => .float .f64 (if t < k then o.ds t else 0)) ∧ Kept b off 23 w wr

theorem inv2_start {o : Ops} {b off : Nat} {p n : Int} {L : Nat} {F : Nat → Value} {w wr : World} (hb : b < w.heap.size) (h : Inv1 o b off p n L F w 2 wr) :
    Inv2 o b off p n L F w 0 ((wr.setCell ⟨b, off + 5, none⟩ (.int .i64 (n + 1))).alloc (.cells #[.float .f64 0, .float .f64 0, .float .f64 0] 24)) := by
  obtain ⟨F', s0', s1', hH, hI, hr, hX, hK, hz⟩ := h
  refine ⟨upd F' 5 (.int .i64 (n + 1)), s0', s1', (hH.set 5 (by omega) _).alloc _, ?_, ⟨by simp [upd, hr.1], by simp [upd, hr.2]⟩, ((hX.other _ (by show b ≠ w.heap.size; omega) _).alloc _).congr (fun t ht => by rw [if_pos (by omega)]), ?_, (hK.set 5 (by omega) _).alloc hb _⟩
  · simpa using hI.upd5 (n + 1)
  · have := holds_new (wr.setCell ⟨b, off + 5, none⟩ (.int .i64 (n + 1))) #[.float .f64 0, .float .f64 0, .float .f64 0] 24 (fun t => .float .f64 (if t < 0 then o.ds t else 0)) (by
      intro i hi
      have hi' : i < 3 := hi
      rcases (show i = 0 ∨ i = 1 ∨ i = 2 by omega) with rfl | rfl | rfl <;> simp)
    have e : (wr.setCell ⟨b, off + 5, none⟩ (.int .i64 (n + 1))).heap.size = w.heap.size + 1 := by simp [World.setCell]; omega
    rw [e] at this
    exact this

theorem inv2_step {o : Ops} {b off : Nat} {p n : Int} {L : Nat} {F : Nat → Value} {w wr : World} {k d m : Nat} (hb : b < w.heap.size) (h : Inv2 o b off p n L F w k wr) (hk : k < 3) (hd : d = o.ds k) (hm : m = o.mp k) :
    Inv2 o b off p n L F w (k + 1) ((wr.setCell ⟨w.heap.size + 1, k, none⟩ (.float .f64 d)).drew.setCell ⟨b, off + 6 + k, none⟩ (.float .f64 m)).drew := by
  obtain ⟨F', s0', s1', hH, hI, hr, hX, hD, hK⟩ := h
  rw [Nat.add_assoc off 6 k]
  refine ⟨upd F' (6 + k) (.float .f64 m), s0', s1', (((hH.other _ (by show w.heap.size + 1 ≠ b; omega) _).drew).set (6 + k) (by omega) _).drew, ?_, ⟨by simp [upd, show ¬ 21 = 6 + k by omega, hr.1], by simp [upd, show ¬ 22 = 6 + k by omega, hr.2]⟩, ((hX.other _ (by show w.heap.size + 1 ≠ w.heap.size; omega) _).drew.other _ (by show b ≠ w.heap.size; omega) _).drew, ?_, ((hK.setNew hb (by show w.heap.size ≤ w.heap.size + 1; omega) _).drew.set (6 + k) (by omega) _).drew⟩
  · have := hI.upd6 k hk m (fun i => if i < k + 1 then o.mp i else o.ms i) (fun i hi => by
      by_cases e : i = k
      · subst e; simp [hm]
      · by_cases c : i < k
        · simp [e, c, show i < k + 1 by omega]
        · simp [e, c, show ¬ i < k + 1 by omega])
    simpa using this
  · have := hD.set k (by omega) (.float .f64 d)
    rw [Nat.zero_add] at this
    refine (this.congr fun t ht => ?_).drew.other _ (by show b ≠ w.heap.size + 1; omega) _ |>.drew
    unfold upd
    by_cases e : t = k
    · subst e; rw [if_pos rfl, if_pos (by omega), hd]
    · rw [if_neg e]; dsimp only
      by_cases c : t < k
      · rw [if_pos c, if_pos (by omega)]
      · rw [if_neg c, if_neg (by omega)]

/-- What holds when t of the nine products are in. -/
def Inv3 (o : Ops) (b off : Nat) (p n : Int) (L : Nat) (F : Nat → Value) (w : World) (t : Nat) (wr : World) : Prop :=
  ∃ F' s0' s1' co', Holds wr b off 23 F' ∧ ({ o with ms := o.mp, co := co' } : Ops).In p (n + 1) s0' s1' L F' ∧ (F' 21 = F 21 ∧ F' 22 = F 22) ∧ Holds wr w.heap.size 0 3 (fun t => .float .f64 (o.xs t)) ∧ Holds wr (w.heap.size + 1) 0 3 (fun t => .float .f64 (o.ds t)) ∧ Kept b off 23 w wr ∧
    (∀ i j, i < 3 → j < 3 → i * 3 + j < t → ∀ r, floatBits .add .f64 (o.co (i * 3 + j)) (o.ps i j) = some r → co' (i * 3 + j) = r) ∧ (∀ q, t ≤ q → co' q = o.co q)

theorem inv3_start {o : Ops} {b off : Nat} {p n : Int} {L : Nat} {F : Nat → Value} {w wr : World} (h : Inv2 o b off p n L F w 3 wr) : Inv3 o b off p n L F w 0 wr := by
  obtain ⟨F', s0', s1', hH, hI, hr, hX, hD, hK⟩ := h
  refine ⟨F', s0', s1', o.co, hH, ?_, hr, hX, hD.congr (fun t ht => by rw [if_pos ht]), hK, fun i j _ _ h => by omega, fun _ _ => rfl⟩
  exact ⟨hI.c0, hI.c1, hI.c3, hI.c5, fun i hi => by rw [hI.c6 i hi]; simp [hi], hI.c9, hI.c18, hI.c19, hI.c20⟩

theorem Holds.alike {w w' : World} {b off n : Nat} {F : Nat → Value} (h : Holds w b off n F) (e : w'.heap = w.heap) : Holds w' b off n F := fun t ht => ⟨by
  rw [show w'.cell? ⟨b, off + t, none⟩ = w.cell? ⟨b, off + t, none⟩ by unfold World.cell?; rw [e]]; exact (h t ht).1, by
  rw [show w'.frozen? ⟨b, off + t, none⟩ = w.frozen? ⟨b, off + t, none⟩ by unfold World.frozen?; rw [e]]; exact (h t ht).2⟩

theorem inv3_step {o : Ops} {b off : Nat} {p n : Int} {L : Nat} {F : Nat → Value} {w wr : World} {i j z : Nat} (hb : b < w.heap.size) (h : Inv3 o b off p n L F w (i * 3 + j) wr) (hi : i < 3) (hj : j < 3)
    (hz : ∀ r, floatBits .add .f64 (o.co (i * 3 + j)) (o.ps i j) = some r → z = r) :
    Inv3 o b off p n L F w (i * 3 + j + 1) (wr.setCell ⟨b, off + 9 + i * 3 + j, none⟩ (.float .f64 z)) := by
  obtain ⟨F', s0', s1', co', hH, hI, hr, hX, hD, hK, hP, hQ⟩ := h
  rw [show off + 9 + i * 3 + j = off + (9 + (i * 3 + j)) by omega]
  refine ⟨upd F' (9 + (i * 3 + j)) (.float .f64 z), s0', s1', fun q => if q = i * 3 + j then z else co' q, hH.set _ (by omega) _, ?_, ⟨by simp [upd, show ¬ 21 = 9 + (i * 3 + j) by omega, hr.1], by simp [upd, show ¬ 22 = 9 + (i * 3 + j) by omega, hr.2]⟩, hX.other _ (by show b ≠ w.heap.size; omega) _, hD.other _ (by show b ≠ w.heap.size + 1; omega) _, hK.set _ (by omega) _, ?_, ?_⟩
  · exact hI.upd9 (i * 3 + j) (by omega) z _ (fun q _ => rfl)
  · intro i' j' hi' hj' hlt r hr'
    by_cases e : i' * 3 + j' = i * 3 + j
    · have e1 : i' = i := by omega
      have e2 : j' = j := by omega
      subst e1 e2
      simp [hz r hr']
    · simp only [if_neg e]
      exact hP i' j' hi' hj' (by omega) r hr'
  · intro q hq
    dsimp only
    rw [if_neg (by omega)]
    exact hQ q (by omega)

theorem inv3_drew {o : Ops} {b off : Nat} {p n : Int} {L : Nat} {F : Nat → Value} {w wr : World} {t : Nat} (h : Inv3 o b off p n L F w t wr) : Inv3 o b off p n L F w t wr.drew := by
  obtain ⟨F', s0', s1', co', hH, hI, hr, hX, hD, hK, hP, hQ⟩ := h
  exact ⟨F', s0', s1', co', hH.drew, hI, hr, hX.drew, hD.drew, hK.drew, hP, hQ⟩

/-- WHAT THE CALL LEAVES. -/
def Closed (o : Ops) (b off : Nat) (n : Int) (L : Nat) (F : Nat → Value) (w w' : World) : Prop :=
  ∃ F' s0' s1' co', Holds w' b off 23 F' ∧ ({ o with cs := fun _ => 0, es := fun _ => 0, ms := o.mp, co := co' } : Ops).In 0 (n + 1) s0' s1' L F' ∧ (F' 21 = F 21 ∧ F' 22 = F 22) ∧ Kept b off 23 w w' ∧
    (∀ i j, i < 3 → j < 3 → ∀ r, floatBits .add .f64 (o.co (i * 3 + j)) (o.ps i j) = some r → co' (i * 3 + j) = r)

theorem closed_end {o : Ops} {b off : Nat} {p n s0' s1' : Int} {L : Nat} {F F' : Nat → Value} {co' : Nat → Nat} {w wr : World} (hH : Holds wr b off 23 F') (hI : ({ o with ms := o.mp, co := co' } : Ops).In p (n + 1) s0' s1' L F') (hr : F' 21 = F 21 ∧ F' 22 = F 22) (hK : Kept b off 23 w wr)
    (hP : ∀ i j, i < 3 → j < 3 → i * 3 + j < 3 * 3 → ∀ r, floatBits .add .f64 (o.co (i * 3 + j)) (o.ps i j) = some r → co' (i * 3 + j) = r) :
    Closed o b off n L F w (((((wr.setCell ⟨b, off, none⟩ (.int .u64 0)).setCell ⟨b, off + 1, none⟩ (.float .f64 0)).setCell ⟨b, off + 1 + 1, none⟩ (.float .f64 0)).setCell ⟨b, off + 3, none⟩ (.float .f64 0)).setCell ⟨b, off + 3 + 1, none⟩ (.float .f64 0)) := by
  have k1 := hH.set 0 (by omega) (.int .u64 0)
  have k2 := k1.set 1 (by omega) (.float .f64 0)
  have k3 := k2.set 2 (by omega) (.float .f64 0)
  have k4 := k3.set 3 (by omega) (.float .f64 0)
  have k5 := k4.set 4 (by omega) (.float .f64 0)
  have q1 := hK.set 0 (by omega) (.int .u64 0)
  have q2 := q1.set 1 (by omega) (.float .f64 0)
  have q3 := q2.set 2 (by omega) (.float .f64 0)
  have q4 := q3.set 3 (by omega) (.float .f64 0)
  have q5 := q4.set 4 (by omega) (.float .f64 0)
  refine ⟨_, s0', s1', co', k5, ?_, ⟨by simp [upd, hr.1], by simp [upd, hr.2]⟩, q5, fun i j hi hj r h => hP i j hi hj (by omega) r h⟩
  exact {
    c0 := by simp [upd]
    c1 := fun k hk => by rcases (show k = 0 ∨ k = 1 by omega) with rfl | rfl <;> simp [upd]
    c3 := fun k hk => by rcases (show k = 0 ∨ k = 1 by omega) with rfl | rfl <;> simp [upd]
    c5 := by simp [upd, hI.c5]
    c6 := fun k hk => by have := hI.c6 k hk; simp [upd, show ¬ 6 + k = 4 by omega, show ¬ 6 + k = 3 by omega, show ¬ 6 + k = 2 by omega, show ¬ 6 + k = 1 by omega, show ¬ 6 + k = 0 by omega, this]
    c9 := fun k hk => by have := hI.c9 k hk; simp [upd, show ¬ 9 + k = 4 by omega, show ¬ 9 + k = 3 by omega, show ¬ 9 + k = 2 by omega, show ¬ 9 + k = 1 by omega, show ¬ 9 + k = 0 by omega, this]
    c18 := by simp [upd, hI.c18]
    c19 := by simp [upd, hI.c19]
    c20 := by simp [upd, hI.c20] }

end Go.Proofs.Qxb6600900a
