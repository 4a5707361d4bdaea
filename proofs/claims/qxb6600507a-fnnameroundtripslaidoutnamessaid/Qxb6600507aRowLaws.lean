import Derived.Test.Qxb6600507aRows
import Derived.WalkKit
import Derived.WalkLawsBesides
import Derived.Below
import Derived.Laws.CopyOwn
import Derived.Laws.IdiomStrings
import Derived.Lib.AppendStr
import Derived.WalkSpells
import Derived.Deep.OwnRows
namespace Go.Proofs.Qxb6600507a
open Go.RowKit

theorem Try.info5 : (Try.prog.info? 5).map (fun i => (i.zero, i.size, i.bytes)) = some (some (.int .u8 0), 1, 1) := by kernel_rfl
theorem Try.info21 : (Try.prog.info? 21).map (fun i => (i.zero, i.size, i.bytes)) = some (some (.int .i32 0), 1, 4) := by kernel_rfl
theorem Try.info9 : (Try.prog.info? 9).map (fun i => (i.zero, i.size, i.bytes)) = some (some (.string ⟨#[]⟩), 1, 16) := by kernel_rfl

/-- Bytes as cells. -/
def cells8 (l : List UInt8) : List Value := l.map fun b => Value.int .u8 b.toNat

theorem cells8_append (a b : List UInt8) : cells8 (a ++ b) = cells8 a ++ cells8 b := by simp [cells8]

theorem addr_add0 (B j : Nat) : (⟨B, 0, none⟩ : Addr).add j = ⟨B, j, none⟩ := by
  unfold Addr.add; by_cases h : j = 0 <;> simp [h]

/-- 'append(buf, s...)' where there is room: the bytes lie behind what was owned. -/
theorem wpList_append_str {P : Program} (w : World) {ops : Array Oper} {rest : List Oper} {o : Oper} {a : Act} {Q : Exit → Act → World → Prop} (hgd : o.guard = none) (sl x : Operand) (t u : TypeId)
    (ho : o.op = .call { callee := .builtin .append, args := #[sl, x], argTypes := #[t, u] })
    (base : Nat) (e : TypeId) (i : TypeInfo) (ht : P.underlying t = some (.slice e)) (hu : P.underlying u = some .string) (hi : P.info? e = some i) (hsize : i.size = 1)
    (g n cap : Nat) (l : List UInt8) (hs : a.eval sl = .slice (some ⟨g, 0, none⟩) n cap) (hown : w.ownsRow base e 1 (.slice (some ⟨g, 0, none⟩) n cap) n (cells8 l)) (s : ByteArray) (hx : a.eval x = .string s)
    (hroom : n + s.size ≤ cap)
    (h : ∀ w', Hid (w'.ownsRow base e 1 (.slice (some ⟨g, 0, none⟩) (n + s.size) cap) (n + s.size) (cells8 (l ++ s.data.toList))) → Hid (w.grownBy w' (some g)) → wpList P ops Q rest (a.put o.dst (.slice (some ⟨g, 0, none⟩) (n + s.size) cap)) w') : wpList P ops Q (o :: rest) a w := by
  refine wpList_plain hgd fun K hK => ?_
  rcases hown.2 with ⟨h', _⟩ | ⟨g', cap', cur, h', hb, hg, hnc, hcm, hcs, htake⟩
  · simp at h'
  · simp only [Value.slice.injEq, Option.some.injEq, Addr.mk.injEq, and_true, true_and] at h'
    obtain ⟨rfl, rfl⟩ := h'
    have hcs' : cur.size = cap := by simpa using hcs
    have hxl : (cells8 l).length = n := by simpa using hown.1
    have hr := Lib.run_append_room_string (P := P) w t u o.type e i ht hu hi hsize g n cap cur hg s hroom (by omega)
    have e1 : Lib.strCells s = cells8 s.data.toList := rfl
    have hlen : (cells8 (l ++ s.data.toList)).length = (n + s.size) * 1 := by
      rw [cells8_append, List.length_append, hxl, ← e1, Lib.strCells_length, Nat.mul_one]
    unfold Oper.wp execOp
    simp only [ho, resolve, invoke, builtin, Sem.run_bind, Sem.run_pure, Result.andThen_ok, List.map_toArray, List.map_cons, List.map_nil, hs, hx, hr]
    refine hK _ _ (h _ ⟨hlen, .inr ⟨g, cap, _, rfl, hb, setRow_heap w g cur _ e _ hg, hroom, hcm, ?_, ?_⟩⟩ ⟨rfl, rfl, rfl, by simp, fun k _ hk => setRow_other w g k _ (fun e => hk (by simp [e]))⟩)
    · simp only [List.size_toArray, List.length_append, List.length_take, List.length_drop, Array.length_toList, Lib.strCells_length]
      omega
    · have ht' : cur.toList.take n = cells8 l := by simpa using htake
      rw [ht', e1, ← cells8_append, ← hlen]
      exact List.take_left

/-- 'string(buf)': what is owned, as a string. -/
theorem run_string_own (P : Program) (w : World) (src dst e : TypeId) (base g n cap : Nat) (l : List UInt8) (hs : P.underlying src = some (.slice e)) (he : P.underlying e = some (.int .u8)) (hd : P.underlying dst = some .string)
    (hown : w.ownsRow base e 1 (.slice (some ⟨g, 0, none⟩) n cap) n (cells8 l)) :
    (convert src dst (.slice (some ⟨g, 0, none⟩) n cap)).run P w = .ok (.string ⟨l.toArray⟩) w := by
  have hl : l.length = n := by have := hown.1; simpa [cells8] using this
  have := run_convert_bytes_back (P := P) w src dst e ⟨g, 0, none⟩ cap l hs he hd (fun j hj => by
    rw [addr_add0, hown.cellAt j (by omega)]
    simp [cells8, hj])
  rw [hl] at this
  exact this

/-- A row that is owned, written by 'copy' whole. -/
theorem splice_whole (L cs : List Value) (h : cs.length = L.length) : splice L 0 cs = cs := by
  simp [splice, h]

theorem below_grownBy {w w' : World} (h : Below w.heap.size w w') (row : Option Nat) : w.grownBy w' row := ⟨h.os, h.tape, h.output, h.size, fun k hk _ => h.block k hk⟩

/-- 'copy(c, xs)', c a new row of the length of xs: it holds what xs holds. -/
theorem copy_whole {P : Program} (w : World) (dT sT ty elem : TypeId) (g dLen dCap : Nat) (ad : Addr) (sLen sCap : Nat) (cur cs : List Value) (hu : P.underlying dT = some (.slice elem)) (hsz : (P.info? elem).map (·.size) = some 1)
    (hg : w.heap[g]? = some (.cells cur.toArray elem (0, 0))) (hn : cs.length = sLen) (hd : cur.length = sLen) (hsrc : ∀ j v, cs[j]? = some v → w.cell? (ad.add j) = some v) (h1 : ∀ v ∈ cs, v.oneCell' = true)
    (B : Nat) (w0 : World) (hb : Below B w0 w) (hBg : B ≤ g) (hl : dLen = sLen := by rfl) :
    ∃ w2, (Builtin.copy_ #[dT, sT] ty #[.slice (some ⟨g, 0, none⟩) dLen dCap, .slice (some ad) sLen sCap]).run P w = .ok (.int .i64 (sLen : Int)) w2 ∧ w2.heap[g]? = some (.cells cs.toArray elem (0, 0)) ∧ Below B w0 w2 ∧ w2.heap.size = w.heap.size := by
  subst hl
  have hrun := run_copy_row (P := P) w dT sT ty elem g 0 dLen dCap ad dLen sCap cur.toArray elem cs hu hsz hg (by rw [hn]; exact (Nat.min_self _).symm) hsrc (by simp; omega) h1
  refine ⟨_, ?_, setRow_heap w g _ _ elem _ hg, below_setRow hb hBg _, by simp [World.setRow]⟩
  rw [hrun, hn]
  have e : (cur.toArray.toList.take 0 ++ cs ++ cur.toArray.toList.drop (0 + dLen)).toArray = cs.toArray := by
    simp [hd]
  rw [e]
  rfl

theorem ret_boolP {a b : Bool} (h : a = b) : Ending.returned (.bool a) = .returned (.bool b) := by rw [h]

theorem lt_of_row {w : World} {g : Nat} {o : Obj} (h : w.heap[g]? = some o) : g < w.heap.size := (Array.getElem?_eq_some_iff.1 h).1

end Go.Proofs.Qxb6600507a
