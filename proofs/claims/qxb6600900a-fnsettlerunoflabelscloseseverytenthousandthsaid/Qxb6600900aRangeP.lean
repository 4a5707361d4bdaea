/-
  The plain laws and the invariants of 'FnBatchCloseMeansStayInRangeAndVariancesNonnegative'.
-/
import Derived.Test.Qxb6600900aIdent
import Derived.Test.Qxb6600900aCopyB
import Derived.WalkSmall
namespace Go.Proofs.Qxb6600900a
open Go.RowKit

def updN (F : Nat → Nat) (k v : Nat) : Nat → Nat := fun t => if t = k then v else F t
theorem updN_self (F : Nat → Nat) (k : Nat) : updN F k (F k) = F := by
  funext t; unfold updN; split
  · subst t; rfl
  · rfl

theorem Holds.drewN {w : World} {b off n : Nat} {F : Nat → Value} (h : Holds w b off n F) (q : Nat) : Holds (w.drewN q) b off n F := h

def flF (F : Nat → Nat) : Nat → Value := fun t => .float .f64 (F t)

theorem Holds.setF {w : World} {b n : Nat} {F : Nat → Nat} (h : Holds w b 0 n (flF F)) (k : Nat) (hk : k < n) (v : Nat) : Holds (w.setCell ⟨b, k, none⟩ (.float .f64 v)) b 0 n (flF (updN F k v)) := by
  have := h.set k hk (.float .f64 v)
  rw [Nat.zero_add] at this
  refine this.congr fun t _ => ?_
  unfold upd flF updN
  split <;> rfl

/-- The blocks of one round: the sums (S), the bounds (S + 1, S + 2), the copy (A), the batch (X), its values (X + 1). -/
structure Q (w : World) (A S X n6 : Nat) (B : Nat → Batch) (F : Nat → Value) (bt : Batch) (x L H : Nat → Nat) (wr : World) : Prop where
  s : Holds wr S 0 23 F
  lo : Holds wr (S + 1) 0 3 (flF L)
  hi : Holds wr (S + 2) 0 3 (flF H)
  cp : Holds wr A 0 n6 (bcell B)
  bt : Holds wr X 0 6 (fun t => bt.cells.getD t (.int .u64 0))
  xs : Holds wr (X + 1) 0 3 (flF x)
  bel : Below w.heap.size w wr
  g1 : w.heap.size ≤ A
  g2 : A < S
  g3 : S + 2 < X

section
variable {w : World} {A S X n6 : Nat} {B : Nat → Batch} {F : Nat → Value} {bt : Batch} {x L H : Nat → Nat} {wr : World}

theorem Q.drewN (h : Q w A S X n6 B F bt x L H wr) (q : Nat) : Q w A S X n6 B F bt x L H (wr.drewN q) := ⟨h.s, h.lo, h.hi, h.cp, h.bt, h.xs, below_drewN h.bel q, h.g1, h.g2, h.g3⟩

theorem Q.setLo (h : Q w A S X n6 B F bt x L H wr) (j : Nat) (hj : j < 3) (v : Nat) : Q w A S X n6 B F bt x (updN L j v) H (wr.setCell ⟨S + 1, j, none⟩ (.float .f64 v)) := by
  have := h.g1; have := h.g2; have := h.g3
  exact ⟨h.s.other _ (by show S + 1 ≠ S; omega) _, h.lo.setF j hj v, h.hi.other _ (by show S + 1 ≠ S + 2; omega) _, h.cp.other _ (by show S + 1 ≠ A; omega) _, h.bt.other _ (by show S + 1 ≠ X; omega) _, h.xs.other _ (by show S + 1 ≠ X + 1; omega) _, h.bel.setCell (by show _ ≤ S + 1; omega) _, h.g1, h.g2, h.g3⟩

theorem Q.setHi (h : Q w A S X n6 B F bt x L H wr) (j : Nat) (hj : j < 3) (v : Nat) : Q w A S X n6 B F bt x L (updN H j v) (wr.setCell ⟨S + 2, j, none⟩ (.float .f64 v)) := by
  have := h.g1; have := h.g2; have := h.g3
  exact ⟨h.s.other _ (by show S + 2 ≠ S; omega) _, h.lo.other _ (by show S + 2 ≠ S + 1; omega) _, h.hi.setF j hj v, h.cp.other _ (by show S + 2 ≠ A; omega) _, h.bt.other _ (by show S + 2 ≠ X; omega) _, h.xs.other _ (by show S + 2 ≠ X + 1; omega) _, h.bel.setCell (by show _ ≤ S + 2; omega) _, h.g1, h.g2, h.g3⟩
end

/-- The bounds: they enclose the means (behind the first batch), and the batch's own values up to j. -/
def Enc (k : Nat) (m x L H : Nat → Nat) (j : Nat) : Prop :=
  (∀ t, t < 3 → Fl.Fin (L t) ∧ Fl.Fin (H t) ∧ (0 < k → Fl.V (L t) ≤ Fl.V (m t) ∧ Fl.V (m t) ≤ Fl.V (H t))) ∧ (∀ t, t < j → Fl.V (L t) ≤ Fl.V (x t) ∧ Fl.V (x t) ≤ Fl.V (H t))

theorem enc_step {k : Nat} {m x L H : Nat → Nat} {j : Nat} (h : Enc k m x L H j) (hj : j < 3) (fx : Fl.Fin (x j)) {l' h' : Nat}
    (hl : (l' = x j ∧ (k = 0 ∨ Fl.V (x j) < Fl.V (L j))) ∨ (l' = L j ∧ k ≠ 0 ∧ Fl.V (L j) ≤ Fl.V (x j)))
    (hh : (h' = x j ∧ (k = 0 ∨ Fl.V (H j) < Fl.V (x j))) ∨ (h' = H j ∧ k ≠ 0 ∧ Fl.V (x j) ≤ Fl.V (H j))) : Enc k m x (updN L j l') (updN H j h') (j + 1) := by
  obtain ⟨a, b⟩ := h
  refine ⟨fun t ht => ?_, fun t ht => ?_⟩
  · unfold updN
    by_cases e : t = j
    · subst e
      obtain ⟨f1, f2, f3⟩ := a t ht
      rw [if_pos rfl, if_pos rfl]
      refine ⟨?_, ?_, fun hk => ?_⟩
      · rcases hl with ⟨rfl, _⟩ | ⟨rfl, _⟩ <;> assumption
      · rcases hh with ⟨rfl, _⟩ | ⟨rfl, _⟩ <;> assumption
      · obtain ⟨f4, f5⟩ := f3 hk
        refine ⟨?_, ?_⟩
        · rcases hl with ⟨rfl, c⟩ | ⟨rfl, _⟩ <;> omega
        · rcases hh with ⟨rfl, c⟩ | ⟨rfl, _⟩ <;> omega
    · rw [if_neg e, if_neg e]; exact a t ht
  · unfold updN
    by_cases e : t = j
    · subst e
      rw [if_pos rfl, if_pos rfl]
      refine ⟨?_, ?_⟩
      · rcases hl with ⟨rfl, c⟩ | ⟨rfl, _, c⟩
        · exact Int.le_refl _
        · exact c
      · rcases hh with ⟨rfl, c⟩ | ⟨rfl, _, c⟩
        · exact Int.le_refl _
        · exact c
    · rw [if_neg e, if_neg e]; exact b t (by omega)

theorem ord_lt {a b : Nat} (ha : Fl.Fin a) (hb : Fl.Fin b) (h : (FloatKind.f64.format.order a b == some .lt) = true) : Fl.V a < Fl.V b := by
  rw [show FloatKind.f64.format.order a b = some (compare (Fl.V a) (Fl.V b)) from Fl.order_fin ha hb] at h
  cases c : compare (Fl.V a) (Fl.V b) <;> rw [c] at h <;> simp at h
  exact Int.compare_eq_lt.1 c

theorem ord_nlt {a b : Nat} (ha : Fl.Fin a) (hb : Fl.Fin b) (h : (FloatKind.f64.format.order a b == some .lt) = false) : Fl.V b ≤ Fl.V a := by
  rw [show FloatKind.f64.format.order a b = some (compare (Fl.V a) (Fl.V b)) from Fl.order_fin ha hb] at h
  by_cases g : Fl.V a < Fl.V b
  · rw [Int.compare_eq_lt.2 g] at h; simp at h
  · omega

theorem ord_gt {a b : Nat} (ha : Fl.Fin a) (hb : Fl.Fin b) (h : (FloatKind.f64.format.order a b == some .gt) = true) : Fl.V b < Fl.V a := by
  rw [show FloatKind.f64.format.order a b = some (compare (Fl.V a) (Fl.V b)) from Fl.order_fin ha hb] at h
  cases c : compare (Fl.V a) (Fl.V b) <;> rw [c] at h <;> simp at h
  exact Int.compare_eq_gt.1 c

theorem ord_ngt {a b : Nat} (ha : Fl.Fin a) (hb : Fl.Fin b) (h : (FloatKind.f64.format.order a b == some .gt) = false) : Fl.V a ≤ Fl.V b := by
  rw [show FloatKind.f64.format.order a b = some (compare (Fl.V a) (Fl.V b)) from Fl.order_fin ha hb] at h
  by_cases g : Fl.V b < Fl.V a
  · rw [Int.compare_eq_gt.2 g] at h; simp at h
  · omega

theorem ord_ge {a b : Nat} (ha : Fl.Fin a) (hb : Fl.Fin b) (h : Fl.V b ≤ Fl.V a) : (FloatKind.f64.format.order a b == some .gt || FloatKind.f64.format.order a b == some .eq) = true := by
  rw [show FloatKind.f64.format.order a b = some (compare (Fl.V a) (Fl.V b)) from Fl.order_fin ha hb]
  cases c : compare (Fl.V a) (Fl.V b)
  · exact absurd (Int.compare_eq_lt.1 c) (by omega)
  · rfl
  · rfl

theorem ord_le {a b : Nat} (ha : Fl.Fin a) (hb : Fl.Fin b) (h : Fl.V a ≤ Fl.V b) : (FloatKind.f64.format.order a b == some .lt || FloatKind.f64.format.order a b == some .eq) = true := by
  rw [show FloatKind.f64.format.order a b = some (compare (Fl.V a) (Fl.V b)) from Fl.order_fin ha hb]
  cases c : compare (Fl.V a) (Fl.V b)
  · rfl
  · rfl
  · exact absurd (Int.compare_eq_gt.1 c) (by omega)

/-- BEHIND A CLOSE: the new means lie within the bounds; the diagonal sums are not negative. -/
theorem range_plain {o : Ops} {k : Nat} (g : o.Good k) {m x L H : Nat → Nat} (hm : ∀ t, t < 3 → o.ms t = m t) (hx : ∀ t, t < 3 → o.xs t = x t) (he : Enc k m x L H 3) (hc : ∀ i, i < 3 → Fl.NN (o.co (i * 3 + i)))
    {co' : Nat → Nat} (hP : ∀ i j, i < 3 → j < 3 → ∀ r, floatBits .add .f64 (o.co (i * 3 + j)) (o.ps i j) = some r → co' (i * 3 + j) = r) :
    (∀ t, t < 3 → Fl.Fin (L t) ∧ Fl.Fin (H t) ∧ Fl.V (L t) ≤ Fl.V (o.mp t) ∧ Fl.V (o.mp t) ≤ Fl.V (H t)) ∧ (∀ i, i < 3 → Fl.NN (co' (i * 3 + i))) := by
  refine ⟨fun t ht => ?_, fun i hi => ?_⟩
  · obtain ⟨f1, f2, f3⟩ := he.1 t ht
    obtain ⟨b1, b2⟩ := he.2 t ht
    refine ⟨f1, f2, ?_⟩
    by_cases c : k = 0
    · rw [g.first c t ht, hx t ht]; exact ⟨b1, b2⟩
    · obtain ⟨b3, b4⟩ := f3 (by omega)
      have u := g.up t ht
      have d := g.down t ht
      rw [hm t ht, hx t ht] at u d
      by_cases q : Fl.V (m t) ≤ Fl.V (x t)
      · have := u q; omega
      · have := d (by omega); omega
  · obtain ⟨r, er, rr⟩ := Fl.nn_add (hc i hi) (g.diag i hi)
    rw [hP i i hi hi r er]
    exact rr

def bmFF (p n s0 s1 : Int) (c0 c1 e0 e1 : Nat) (m co : Nat → Nat) (l bu cr : Nat) : Nat → Value := bmF p n s0 s1 c0 c1 e0 e1 (m 0) (m 1) (m 2) (co 0) (co 1) (co 2) (co 3) (co 4) (co 5) (co 6) (co 7) (co 8) l bu cr

/-- What holds behind k batches. -/
def StR (w : World) (A S n6 : Nat) (B : Nat → Batch) (k : Nat) (wr : World) : Prop :=
  ∃ (p s0 s1 : Int) (c0 c1 e0 e1 : Nat) (m co : Nat → Nat) (l bu cr : Nat) (L H : Nat → Nat),
    Holds wr S 0 23 (bmFF p k s0 s1 c0 c1 e0 e1 m co l bu cr) ∧ Holds wr (S + 1) 0 3 (flF L) ∧ Holds wr (S + 2) 0 3 (flF H) ∧ Holds wr A 0 n6 (bcell B) ∧ Below w.heap.size w wr ∧ w.heap.size ≤ A ∧ A < S ∧
    (∀ t, t < 3 → Fl.Bd (m t)) ∧ (k = 0 → ∀ t, t < 3 → Fl.V (m t) = 0) ∧ (∀ t, t < 3 → Fl.NN (co (t * 3 + t))) ∧ Fl.Fin l ∧
    (∀ t, t < 3 → Fl.Fin (L t) ∧ Fl.Fin (H t) ∧ (0 < k → Fl.V (L t) ≤ Fl.V (m t) ∧ Fl.V (m t) ≤ Fl.V (H t)))

theorem StR.drewN {w : World} {A S n6 : Nat} {B : Nat → Batch} {k : Nat} {wr : World} (h : StR w A S n6 B k wr) (q : Nat) : StR w A S n6 B k (wr.drewN q) := by
  obtain ⟨p, s0, s1, c0, c1, e0, e1, m, co, l, bu, cr, L, H, h1, h2, h3, h4, h5, h6⟩ := h
  exact ⟨p, s0, s1, c0, c1, e0, e1, m, co, l, bu, cr, L, H, h1, h2, h3, h4, below_drewN h5 q, h6⟩

theorem stR_start (w wc : World) (A n6 : Nat) (B : Nat → Batch) (hcp : Holds wc A 0 n6 (bcell B)) (hB : Below w.heap.size w wc) (h1 : w.heap.size ≤ A) (h2 : A < wc.heap.size) :
    StR w A wc.heap.size n6 B 0 (((wc.alloc (.cells (bm 0 0 0 0 0 0 0 0 0 0 0 0 0 0 0 0 0 0 0 0 0 0 0) 30)).alloc (.cells #[.float .f64 0, .float .f64 0, .float .f64 0] 24)).alloc (.cells #[.float .f64 0, .float .f64 0, .float .f64 0] 24)) := by
  have z := fin_zero
  have zb : Fl.Bd 0 := ⟨z.1, by rw [z.2]; unfold Fl.BX; omega, by rw [z.2]; unfold Fl.BX; omega⟩
  have k1 := holds_new wc (bm 0 0 0 0 0 0 0 0 0 0 0 0 0 0 0 0 0 0 0 0 0 0 0) 30 (bmF 0 0 0 0 0 0 0 0 0 0 0 0 0 0 0 0 0 0 0 0 0 0 0) (fun i hi => by unfold bmF; simp [Array.getD, hi])
  have z3 : ∀ i, i < (#[.float .f64 0, .float .f64 0, .float .f64 0] : Array Value).size → (#[.float .f64 0, .float .f64 0, .float .f64 0] : Array Value)[i]? = some (flF (fun _ => 0) i) := by
    intro i hi
    have hi' : i < 3 := hi
    rcases (show i = 0 ∨ i = 1 ∨ i = 2 by omega) with rfl | rfl | rfl <;> simp [flF]
  have k2 := holds_new (wc.alloc (.cells (bm 0 0 0 0 0 0 0 0 0 0 0 0 0 0 0 0 0 0 0 0 0 0 0) 30)) #[.float .f64 0, .float .f64 0, .float .f64 0] 24 (flF fun _ => 0) z3
  have k3 := holds_new ((wc.alloc (.cells (bm 0 0 0 0 0 0 0 0 0 0 0 0 0 0 0 0 0 0 0 0 0 0 0) 30)).alloc (.cells #[.float .f64 0, .float .f64 0, .float .f64 0] 24)) #[.float .f64 0, .float .f64 0, .float .f64 0] 24 (flF fun _ => 0) z3
  rw [World.size_alloc] at k2
  rw [World.size_alloc, World.size_alloc] at k3
  have hs := hB.size
  exact ⟨0, 0, 0, 0, 0, 0, 0, fun _ => 0, fun _ => 0, 0, 0, 0, fun _ => 0, fun _ => 0, (k1.alloc _).alloc _, k2.alloc _, k3, ((hcp.alloc _).alloc _).alloc _, ((hB.alloc hs _).alloc (by rw [World.size_alloc]; omega) _).alloc (by rw [World.size_alloc, World.size_alloc]; omega) _, h1, h2,
    fun _ _ => zb, fun _ _ _ => z.2, fun _ _ => .inl ⟨z.1, by show 0 ≤ Fl.V 0; rw [z.2]; omega⟩, z.1, fun _ _ => ⟨z.1, z.1, fun h => absurd h (by omega)⟩⟩

/-- The round's two blocks are laid. -/
theorem q_start {w wr : World} {A S n6 : Nat} {B : Nat → Batch} {F : Nat → Value} {L H : Nat → Nat} (bt : Batch) (x1 x2 : Nat)
    (h1 : Holds wr S 0 23 F) (h2 : Holds wr (S + 1) 0 3 (flF L)) (h3 : Holds wr (S + 2) 0 3 (flF H)) (h4 : Holds wr A 0 n6 (bcell B)) (h5 : Below w.heap.size w wr) (h6 : w.heap.size ≤ A) (h7 : A < S) :
    Q w A S wr.heap.size n6 B F bt (fun t => if t = 0 then bt.u else if t = 1 then x1 else x2) L H ((wr.alloc (.cells #[.int .u64 bt.p, .float .f64 bt.u, .float .f64 bt.c0, .float .f64 bt.c1, .float .f64 bt.e0, .float .f64 bt.e1] 36)).alloc (.cells #[.float .f64 bt.u, .float .f64 x1, .float .f64 x2] 24)) := by
  have hs := h5.size
  have k1 := holds_new wr #[.int .u64 bt.p, .float .f64 bt.u, .float .f64 bt.c0, .float .f64 bt.c1, .float .f64 bt.e0, .float .f64 bt.e1] 36 (fun t => bt.cells.getD t (.int .u64 0)) (by
    intro i hi
    have hi' : i < 6 := hi
    rcases (show i = 0 ∨ i = 1 ∨ i = 2 ∨ i = 3 ∨ i = 4 ∨ i = 5 by omega) with rfl | rfl | rfl | rfl | rfl | rfl <;> simp [Batch.cells])
  have k2 := holds_new (wr.alloc (.cells #[.int .u64 bt.p, .float .f64 bt.u, .float .f64 bt.c0, .float .f64 bt.c1, .float .f64 bt.e0, .float .f64 bt.e1] 36)) #[.float .f64 bt.u, .float .f64 x1, .float .f64 x2] 24 (flF (fun t => if t = 0 then bt.u else if t = 1 then x1 else x2)) (by
    intro i hi
    have hi' : i < 3 := hi
    rcases (show i = 0 ∨ i = 1 ∨ i = 2 by omega) with rfl | rfl | rfl <;> simp [flF])
  rw [World.size_alloc] at k2
  exact ⟨(h1.alloc _).alloc _, (h2.alloc _).alloc _, (h3.alloc _).alloc _, (h4.alloc _).alloc _, k1.alloc _, k2, (h5.alloc hs _).alloc (by rw [World.size_alloc]; omega) _, h6, h7, h3.lt (by omega)⟩

theorem q_laid {w wr : World} {A S X n6 : Nat} {B : Nat → Batch} {bt : Batch} {x L H : Nat → Nat} {p n s0 s1 : Int} {d0 d1 f0 f1 : Nat} {m co : Nat → Nat} {l bu cr : Nat}
    (h : Q w A S X n6 B (bmFF p n s0 s1 d0 d1 f0 f1 m co l bu cr) bt x L H wr) :
    Q w A S X n6 B (bmFF bt.p n s0 s1 bt.c0 bt.c1 bt.e0 bt.e1 m co l bu cr) bt x L H (((((wr.setCell ⟨S, 0, none⟩ (.int .u64 bt.p)).setCell ⟨S, 1, none⟩ (.float .f64 bt.c0)).setCell ⟨S, 2, none⟩ (.float .f64 bt.c1)).setCell ⟨S, 3, none⟩ (.float .f64 bt.e0)).setCell ⟨S, 4, none⟩ (.float .f64 bt.e1)) := by
  have := h.g1; have := h.g2; have := h.g3
  have k0 : Holds (wr.setCell ⟨S, 0, none⟩ (.int .u64 bt.p)) S 0 23 (bmFF bt.p n s0 s1 d0 d1 f0 f1 m co l bu cr) := by
    refine (h.s.set 0 (by omega) (.int .u64 bt.p)).congr fun t ht => ?_
    unfold bmFF
    by_cases e : t = 0
    · subst e; rfl
    · simp only [upd, e, if_false]
      have y1 := bm_at p n s0 s1 d0 d1 f0 f1 (m 0) (m 1) (m 2) (co 0) (co 1) (co 2) (co 3) (co 4) (co 5) (co 6) (co 7) (co 8) l bu cr t ht
      have y2 := bm_at bt.p n s0 s1 d0 d1 f0 f1 (m 0) (m 1) (m 2) (co 0) (co 1) (co 2) (co 3) (co 4) (co 5) (co 6) (co 7) (co 8) l bu cr t ht
      obtain ⟨q, rfl⟩ : ∃ q, t = q + 1 := ⟨t - 1, by omega⟩
      unfold bm at y1 y2
      simp only [List.getElem?_cons_succ] at y1 y2
      rw [y1] at y2
      exact Option.some.inj y2
  refine ⟨holds_laid k0 bt.c0 bt.c1 bt.e0 bt.e1, ?_, ?_, ?_, ?_, ?_, ?_, h.g1, h.g2, h.g3⟩
  · exact ((((h.lo.other _ (by show S ≠ S + 1; omega) _).other _ (by show S ≠ S + 1; omega) _).other _ (by show S ≠ S + 1; omega) _).other _ (by show S ≠ S + 1; omega) _).other _ (by show S ≠ S + 1; omega) _
  · exact ((((h.hi.other _ (by show S ≠ S + 2; omega) _).other _ (by show S ≠ S + 2; omega) _).other _ (by show S ≠ S + 2; omega) _).other _ (by show S ≠ S + 2; omega) _).other _ (by show S ≠ S + 2; omega) _
  · exact ((((h.cp.other _ (by show S ≠ A; omega) _).other _ (by show S ≠ A; omega) _).other _ (by show S ≠ A; omega) _).other _ (by show S ≠ A; omega) _).other _ (by show S ≠ A; omega) _
  · exact ((((h.bt.other _ (by show S ≠ X; omega) _).other _ (by show S ≠ X; omega) _).other _ (by show S ≠ X; omega) _).other _ (by show S ≠ X; omega) _).other _ (by show S ≠ X; omega) _
  · exact ((((h.xs.other _ (by show S ≠ X + 1; omega) _).other _ (by show S ≠ X + 1; omega) _).other _ (by show S ≠ X + 1; omega) _).other _ (by show S ≠ X + 1; omega) _).other _ (by show S ≠ X + 1; omega) _
  · exact ((((h.bel.setCell (by show _ ≤ S; omega) _).setCell (by show _ ≤ S; omega) _).setCell (by show _ ≤ S; omega) _).setCell (by show _ ≤ S; omega) _).setCell (by show _ ≤ S; omega) _

theorem Q.below {w wr w' : World} {A S X n6 : Nat} {B : Nat → Batch} {F : Nat → Value} {bt : Batch} {x L H : Nat → Nat} (h : Q w A S X n6 B F bt x L H wr) (hB : Below wr.heap.size wr w') : Q w A S X n6 B F bt x L H w' := by
  have := h.g1; have := h.g2; have := h.g3
  have hX := h.xs.lt (by omega)
  exact ⟨h.s.below hB (by omega), h.lo.below hB (by omega), h.hi.below hB (by omega), h.cp.below hB (by omega), h.bt.below hB (by omega), h.xs.below hB (by omega), h.bel.trans (hB.mono h.bel.size), h.g1, h.g2, h.g3⟩

/-- BEHIND THE CLOSE. -/
theorem stR_next {w w3 : World} {A S X n6 : Nat} {B : Nat → Batch} {F : Nat → Value} {bt : Batch} {x L H : Nat → Nat} (h : Q w A S X n6 B F bt x L H w3) (k : Nat) (s0 s1 : Int) (mp co : Nat → Nat) (l bu cr : Nat)
    (hb : ∀ t, t < 3 → Fl.Bd (mp t)) (hL : ∀ t, t < 3 → Fl.Fin (L t) ∧ Fl.Fin (H t) ∧ Fl.V (L t) ≤ Fl.V (mp t) ∧ Fl.V (mp t) ≤ Fl.V (H t)) (hc : ∀ t, t < 3 → Fl.NN (co (t * 3 + t))) (hl : Fl.Fin l) :
    StR w A S n6 B (k + 1) (w3.setCells S 0 (bm 0 ((k : Int) + 1) s0 s1 0 0 0 0 (mp 0) (mp 1) (mp 2) (co 0) (co 1) (co 2) (co 3) (co 4) (co 5) (co 6) (co 7) (co 8) l bu cr).toList) := by
  have := h.g1; have := h.g2; have := h.g3
  refine ⟨0, s0, s1, 0, 0, 0, 0, mp, co, l, bu, cr, L, H, ?_, ?_, ?_, ?_, ?_, h.g1, h.g2, hb, fun e => absurd e (by omega), hc, hl, fun t ht => ⟨(hL t ht).1, (hL t ht).2.1, fun _ => (hL t ht).2.2⟩⟩
  · exact holds_setCells h.s _ _ rfl (fun j hj => bm_at 0 ((k : Int) + 1) s0 s1 0 0 0 0 (mp 0) (mp 1) (mp 2) (co 0) (co 1) (co 2) (co 3) (co 4) (co 5) (co 6) (co 7) (co 8) l bu cr j hj)
  · exact holds_setCells_other h.lo _ _ _ (by omega)
  · exact holds_setCells_other h.hi _ _ _ (by omega)
  · exact holds_setCells_other h.cp _ _ _ (by omega)
  · exact below_setCells _ (by omega) _ _ _ h.bel

end Go.Proofs.Qxb6600900a
