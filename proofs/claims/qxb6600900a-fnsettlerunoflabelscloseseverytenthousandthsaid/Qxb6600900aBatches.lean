/-
  A slice of batches that came in: what is known of its cells.
-/
import Derived.Test.Qxb6600900aMem
import Derived.ProofKit
import Derived.Deep.Slices
namespace Go.Proofs.Qxb6600900a
open Go.RowKit
open Go.ChangeShapes Go.WideShapes Go.Deep

section
variable {H : Type} {enc : TypeId × Value → H} {P : Program} {w : World} {base : Nat} {spare : Nat → Bool} {held : Bool} {t : TypeId} {fuel : Nat} {cs : List Value} {x : DataW H × List MemPlace}
theorem trod_float {k : FloatKind} (ht : P.underlying t = some (.float k)) (h : DataW.trod enc P w base spare held fuel t cs = some x) : ∃ n, cs = [.float k n] ∧ (Lit.float k n).wf = true := by
  cases fuel with
  | zero => simp [DataW.trod] at h
  | succ n =>
    unfold DataW.trod at h
    rw [ht] at h
    split at h <;> simp_all
end

/-- One batch, as its six cells. -/
structure Batch where
  p : Int
  u : Nat
  c0 : Nat
  c1 : Nat
  e0 : Nat
  e1 : Nat

def Batch.cells (b : Batch) : List Value := [.int .u64 b.p, .float .f64 b.u, .float .f64 b.c0, .float .f64 b.c1, .float .f64 b.e0, .float .f64 b.e1]

theorem list6 {l : List Value} (h : l.length = 6) : ∃ a b c d e f, l = [a, b, c, d, e, f] := by
  match l, h with
  | [a, b, c, d, e, f], _ => exact ⟨a, b, c, d, e, f, rfl⟩

theorem batch_of {H : Type} {enc : TypeId × Value → H} {w : World} {base : Nat} {spare : Nat → Bool} {held : Bool} {fuel : Nat} {cs : List Value} {x : DataW H × List MemPlace}
    (h : DataW.trod enc Try.prog w base spare held fuel 36 cs = some x) : ∃ b : Batch, cs = b.cells := by
  obtain ⟨xs, n, rfl, _, hl, hx, hf⟩ := DataW.trod_struct Try.underlying36 h
  have h6 : cs.length = 6 := by rw [hl]; kernel_rfl
  have hc22 : Try.prog.cellsOf 22 = 1 := by kernel_rfl
  have hc25 : Try.prog.cellsOf 25 = 1 := by kernel_rfl
  obtain ⟨a, b, c, d, e, f, rfl⟩ := list6 h6
  have hx6 : xs.length = 6 := hx
  have g0 : DataW.trod enc Try.prog w base spare held n 25 (([a, b, c, d, e, f].drop 0).take (Try.prog.cellsOf 25)) = xs[0]? := hf 0 _ rfl
  have g1 : DataW.trod enc Try.prog w base spare held n 22 (([a, b, c, d, e, f].drop 1).take (Try.prog.cellsOf 22)) = xs[1]? := hf 1 _ rfl
  have g2 : DataW.trod enc Try.prog w base spare held n 22 (([a, b, c, d, e, f].drop 2).take (Try.prog.cellsOf 22)) = xs[2]? := hf 2 _ rfl
  have g3 : DataW.trod enc Try.prog w base spare held n 22 (([a, b, c, d, e, f].drop 3).take (Try.prog.cellsOf 22)) = xs[3]? := hf 3 _ rfl
  have g4 : DataW.trod enc Try.prog w base spare held n 22 (([a, b, c, d, e, f].drop 4).take (Try.prog.cellsOf 22)) = xs[4]? := hf 4 _ rfl
  have g5 : DataW.trod enc Try.prog w base spare held n 22 (([a, b, c, d, e, f].drop 5).take (Try.prog.cellsOf 22)) = xs[5]? := hf 5 _ rfl
  rw [hc25] at g0
  rw [hc22] at g1 g2 g3 g4 g5
  rw [List.getElem?_eq_getElem (by omega)] at g0 g1 g2 g3 g4 g5
  obtain ⟨p, hp, _⟩ := DataW.trod_int Try.underlying25 g0
  obtain ⟨u, hu, _⟩ := trod_float Try.underlying22 g1
  obtain ⟨c0, hc0, _⟩ := trod_float Try.underlying22 g2
  obtain ⟨c1, hc1, _⟩ := trod_float Try.underlying22 g3
  obtain ⟨e0, he0, _⟩ := trod_float Try.underlying22 g4
  obtain ⟨e1, he1, _⟩ := trod_float Try.underlying22 g5
  refine ⟨⟨p, u, c0, c1, e0, e1⟩, ?_⟩
  simp only [List.drop_zero, List.drop_succ_cons, List.take_succ_cons, List.take_zero, List.cons.injEq, and_true] at hp hu hc0 hc1 he0 he1
  rw [hp, hu, hc0, hc1, he0, he1]
  rfl

theorem cells_at {w : World} {base n : Nat} {a : Addr} {cs : List Value} (h : w.cells? base a n = some cs) : cs.length = n ∧ ∀ j v, cs[j]? = some v → w.cell? (a.add j) = some v := by
  unfold World.cells? at h
  split at h
  · refine ⟨by simpa using mapM_some_length h, fun j v hv => ?_⟩
    have hj : j < n := by
      have := (List.getElem?_eq_some_iff.1 hv).1
      have hl : cs.length = n := by simpa using mapM_some_length h
      omega
    have := mapM_some_get h j j (by simp [hj])
    rw [this, hv]
  · cases h

/-- WHAT THE WALK IS TOLD OF A SLICE OF BATCHES THAT CAME IN. -/
def IsBatches (w : World) (a : Option Addr) (len cap : Nat) (B : Nat → Batch) : Prop :=
  (a = none ∧ len = 0) ∨
  ∃ x, a = some x ∧ len ≤ cap ∧ cap ≤ maxLen ∧ ∀ i, i < len → ∀ j v, (B i).cells[j]? = some v → w.cell? (x.add (i * 6 + j)) = some v

theorem open_batches {H : Type} {enc : TypeId × Value → H} {w : World} {base : Nat} {spare : Nat → Bool} {held : Bool} {fuel : Nat} {a : Option Addr} {len cap : Nat} {x : DataW H × List MemPlace}
    (h : DataW.trod enc Try.prog w base spare held fuel 33 [.slice a len cap] = some x) : ∃ B, IsBatches w a len cap B := by
  have hc36 : Try.prog.cellsOf 36 = 6 := by kernel_rfl
  rcases open_slice Try.underlying33 h with ⟨h0, _⟩ | ⟨a', len', cap', m, n, D, Pl, hcs, _, hl, hm, hmm, _, hx⟩
  · simp only [List.cons.injEq, Value.slice.injEq, and_true] at h0
    exact ⟨fun _ => ⟨0, 0, 0, 0, 0, 0⟩, .inl ⟨h0.1, h0.2.1⟩⟩
  · simp only [List.cons.injEq, Value.slice.injEq, and_true] at hcs
    obtain ⟨rfl, rfl, rfl⟩ := hcs
    have hle : len ≤ m := by rw [hmm]; split <;> omega
    have : ∀ i, i < len → ∃ b : Batch, ∀ j v, b.cells[j]? = some v → w.cell? (a'.add (i * 6 + j)) = some v := by
      intro i hi
      obtain ⟨cs', h1, h2⟩ := hx i (by omega)
      obtain ⟨b, rfl⟩ := batch_of h2
      rw [hc36] at h1
      refine ⟨b, fun j v hv => ?_⟩
      have := (cells_at h1).2 j v hv
      rw [add_add] at this
      exact this
    have : Inhabited Batch := ⟨⟨0, 0, 0, 0, 0, 0⟩⟩
    obtain ⟨B, hB⟩ := choose_lt (α := Batch) ‹∀ i, i < len → ∃ b : Batch, _›
    exact ⟨B, .inr ⟨a', rfl, hl, hm, hB⟩⟩

end Go.Proofs.Qxb6600900a
