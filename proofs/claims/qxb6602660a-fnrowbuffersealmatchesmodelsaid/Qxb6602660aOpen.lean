/-
  What came in: a slice of chunks, a slice of bytes.
-/
import Derived.Test.Qxb6602660aMake2
import Derived.ProofKit
import Derived.ChangeSame
import Derived.Deep.Slices
namespace Go.Proofs.Qxb6602660a
open Go.RowKit
open Go.ChangeShapes Go.WideShapes Go.Deep

theorem spot_none {w : World} {x : Addr} {v : Value} (h : w.cell? x = some v) : x = ⟨x.block, x.off, none⟩ := by
  obtain ⟨b, off, spot⟩ := x
  cases spot with
  | none => rfl
  | some q =>
    exfalso
    unfold World.cell? at h
    split at h <;> simp at h

theorem add_flat (b off i : Nat) : (⟨b, off, none⟩ : Addr).add i = ⟨b, off + i, none⟩ := by unfold Addr.add; split <;> simp_all

theorem open_by {H : Type} {enc : TypeId × Value → H} {w : World} {base : Nat} {spare : Nat → Bool} {held : Bool} {fuel : Nat} {cs : List Value} {x : DataW H × List MemPlace}
    (h : DataW.trod enc Try.prog w base spare held fuel 26 cs = some x) : ∃ a len cap z, cs = [.slice a len cap] ∧ len ≤ maxLen ∧ IsBy w 0 w.heap.size (.slice a len cap) len z := by
  rcases open_ints Try.underlying26 Try.underlying5 (by kernel_rfl) h with ⟨rfl, _⟩ | ⟨x, l, c, zs, rfl, _, hl, hm, hz, _, hcell, _⟩
  · exact ⟨none, 0, 0, fun _ => 0, rfl, Nat.zero_le _, _, _, rfl, .inl rfl⟩
  · refine ⟨_, l, c, fun i => zs.getD i 0, rfl, by omega, _, _, rfl, ?_⟩
    by_cases h0 : l = 0
    · exact .inl h0
    · have hlz : l ≤ zs.length := by rw [hz]; split <;> omega
      have h00 := hcell 0 (by omega)
      rw [show x.add 0 = x from rfl] at h00
      have hx := spot_none h00
      refine .inr ⟨x.block, x.off, by rw [← hx], Nat.zero_le _, World.block_lt_of_cell? w _ h00, fun i hi => ?_⟩
      rw [← add_flat, ← hx]
      exact hcell i (by omega)

theorem list2 {l : List Value} (h : l.length = 2) : ∃ a b, l = [a, b] := by
  match l, h with
  | [a, b], _ => exact ⟨a, b, rfl⟩

theorem chunk_of {H : Type} {enc : TypeId × Value → H} {w : World} {base : Nat} {spare : Nat → Bool} {held : Bool} {fuel : Nat} {cs : List Value} {x : DataW H × List MemPlace}
    (h : DataW.trod enc Try.prog w base spare held fuel 43 cs = some x) : ∃ (t : ByteArray) (v : Value) (l : Nat) (z : Nat → Int), cs = [.string t, v] ∧ t.size ≤ maxLen ∧ l ≤ maxLen ∧ IsBy w 0 w.heap.size v l z := by
  obtain ⟨y0, y1, n, _, hl, h0, h1⟩ := trod_struct2 Try.underlying43 h
  have hl2 : cs.length = 2 := by rw [hl]; kernel_rfl
  have hc9 : Try.prog.cellsOf 9 = 1 := by kernel_rfl
  have hc26 : Try.prog.cellsOf 26 = 1 := by kernel_rfl
  obtain ⟨a, b, rfl⟩ := list2 hl2
  have h0' : DataW.trod enc Try.prog w base spare held n 9 (([a, b].drop 0).take (Try.prog.cellsOf 9)) = some y0 := h0
  have h1' : DataW.trod enc Try.prog w base spare held n 26 (([a, b].drop 1).take (Try.prog.cellsOf 26)) = some y1 := h1
  rw [hc9] at h0'
  rw [hc26] at h1'
  obtain ⟨t, ht, _, hts⟩ := DataW.trod_string Try.underlying9 h0'
  obtain ⟨a', l, c, z, hv, hlm, hby⟩ := open_by h1'
  simp only [List.drop_zero, List.drop_succ_cons, List.take_succ_cons, List.take_zero, List.cons.injEq, and_true] at ht hv
  subst ht
  subst hv
  exact ⟨t, _, l, z, rfl, hts, hlm, hby⟩

theorem cells_at {w : World} {base n : Nat} {a : Addr} {cs : List Value} (h : w.cells? base a n = some cs) : cs.length = n ∧ ∀ j v, cs[j]? = some v → w.cell? (a.add j) = some v := by
  unfold World.cells? at h
  split at h
  · refine ⟨by simpa using mapM_some_length h, fun j v hv => ?_⟩
    have hj : j < n := by
      have := (List.getElem?_eq_some_iff.1 hv).1
      have hl : cs.length = n := by simpa using mapM_some_length h
      omega
    have := mapM_some_get h j j (by simp [hj])
    rw [this, hv]
  · cases h

theorem open_chs {H : Type} {enc : TypeId × Value → H} {w : World} {base : Nat} {spare : Nat → Bool} {held : Bool} {fuel : Nat} {a : Option Addr} {len cap : Nat} {x : DataW H × List MemPlace}
    (h : DataW.trod enc Try.prog w base spare held fuel 25 [.slice a len cap] = some x) : ∃ T Y Z, len ≤ maxLen ∧ (∀ i, i < len → (T i : ByteArray).size ≤ maxLen ∧ Y i ≤ maxLen) ∧ Chs w 0 w.heap.size (.slice a len cap) len T Y Z := by
  have hc43 : Try.prog.cellsOf 43 = 2 := by kernel_rfl
  rcases open_slice Try.underlying25 h with ⟨h0, _⟩ | ⟨a', len', cap', m, n, D, Pl, hcs, _, hl, hm, hmm, _, hx⟩
  · simp only [List.cons.injEq, Value.slice.injEq, and_true] at h0
    obtain ⟨rfl, rfl, rfl⟩ := h0
    exact ⟨fun _ => ByteArray.empty, fun _ => 0, fun _ _ => 0, Nat.zero_le _, fun i hi => absurd hi (Nat.not_lt_zero _), _, _, rfl, .inl rfl⟩
  · simp only [List.cons.injEq, Value.slice.injEq, and_true] at hcs
    obtain ⟨rfl, rfl, rfl⟩ := hcs
    have hle : len ≤ m := by rw [hmm]; split <;> omega
    have each : ∀ i, i < len → ∃ q : ByteArray × Value × Nat × (Nat → Int), (q.1.size ≤ maxLen ∧ q.2.2.1 ≤ maxLen) ∧ w.cell? (a'.add (i * 2)) = some (.string q.1) ∧ w.cell? (a'.add (i * 2 + 1)) = some q.2.1 ∧ IsBy w 0 w.heap.size q.2.1 q.2.2.1 q.2.2.2 := by
      intro i hi
      obtain ⟨cs', h1, h2⟩ := hx i (by omega)
      obtain ⟨t, v, l, z, rfl, k1, k2, k3⟩ := chunk_of h2
      rw [hc43] at h1
      have e0 := (cells_at h1).2 0 (.string t) rfl
      have e1 := (cells_at h1).2 1 v rfl
      rw [add_add] at e0 e1
      exact ⟨⟨t, v, l, z⟩, ⟨k1, k2⟩, e0, e1, k3⟩
    have : Inhabited (ByteArray × Value × Nat × (Nat → Int)) := ⟨⟨ByteArray.empty, .bool false, 0, fun _ => 0⟩⟩
    obtain ⟨f, hf⟩ := choose_lt each
    refine ⟨fun i => (f i).1, fun i => (f i).2.2.1, fun i => (f i).2.2.2, by omega, fun i hi => (hf i hi).1, _, _, rfl, ?_⟩
    by_cases h0 : len = 0
    · exact .inl h0
    · have h00 := (hf 0 (by omega)).2.1
      rw [show a'.add (0 * 2) = a' from rfl] at h00
      have hx := spot_none h00
      refine .inr ⟨a'.block, a'.off, by rw [← hx], Nat.zero_le _, World.block_lt_of_cell? w _ h00, fun i hi => ?_⟩
      obtain ⟨_, e0, e1, e2⟩ := hf i hi
      rw [Nat.add_assoc, ← add_flat, ← add_flat, ← hx]
      exact ⟨e0, _, e1, e2⟩

end Go.Proofs.Qxb6602660a
