import Derived.Test.Qxb6600900aClose
import Derived.Deep.WholeRow
import Derived.Deep.MidRow
namespace Go.Proofs.Qxb6600900a
open Go.RowKit
attribute [local go_sem] run_store_float

/-- The 23 cells of a batch's means. -/
def bm (p n s0 s1 : Int) (c0 c1 e0 e1 m0 m1 m2 o0 o1 o2 o3 o4 o5 o6 o7 o8 l bu cr : Nat) : Array Value :=
  #[.int .u64 p, .float .f64 c0, .float .f64 c1, .float .f64 e0, .float .f64 e1, .int .i64 n, .float .f64 m0, .float .f64 m1, .float .f64 m2, .float .f64 o0, .float .f64 o1, .float .f64 o2, .float .f64 o3, .float .f64 o4, .float .f64 o5, .float .f64 o6, .float .f64 o7, .float .f64 o8, .int .i64 s0, .int .i64 s1, .float .f64 l, .float .f64 bu, .float .f64 cr]

theorem bm_one (p n s0 s1 : Int) (c0 c1 e0 e1 m0 m1 m2 o0 o1 o2 o3 o4 o5 o6 o7 o8 l bu cr : Nat) : (bm p n s0 s1 c0 c1 e0 e1 m0 m1 m2 o0 o1 o2 o3 o4 o5 o6 o7 o8 l bu cr).all (·.oneCell') = true := by
  simp [bm, Value.oneCell']

/-- A whole struct into the block that was made last. -/
theorem wp_store_new {P : Program} {op : Oper} {a : Act} {W : World} {K : Act → World → Prop} {Q : Exit → Act → World → Prop} (ty : TypeId) (x y : Operand) (ho : op.op = .store ty x y)
    (B : Nat) (hB : B = W.heap.size) (c c' : Array Value) (hx : a.eval x = .pointer (some ⟨B, 0, none⟩)) (hy : a.eval y = .agg c')
    (hi : (P.info? ty).map (·.size) = some c'.size) (hc : c.size = c'.size) (h1 : c'.all (·.oneCell') = true)
    (h : K (a.put op.dst undef) (W.alloc (.cells c' ty))) : op.wp P a (W.alloc (.cells c ty)) K Q := by
  subst hB
  unfold Oper.wp execOp
  simp only [ho, hx, hy, Instr.storeAt, Instr.sureAddr, Sem.run_bind, Sem.run_pure, Result.andThen_ok, run_storeVar_new W ty c c' hi hc h1]
  exact h

/-- A function's one result that lies in memory. -/
theorem ret_struct {P : Program} {fn : Func} {R : Ending → World → Prop} {a : Act} {w : World} (slot : Tmp) (ty : TypeId) (h : fn.results = #[.cell slot ty]) (B : Nat) (cs : List Value) (d : TypeDesc)
    (hs : a.tmps.getD slot undef = .pointer (some ⟨B, 0, none⟩)) (hc : w.rangeAt B 0 cs) (hu : P.underlying ty = some d) (hd : d.isRow = true) (hi : (P.info? ty).map (·.size) = some cs.length) (hdf : a.defers = [])
    (hR : R (.returned (.agg cs.toArray)) w) : bodyPost P fn R .ret a w := by
  refine bodyPost_ret (v := .agg cs.toArray) ?_ hdf hR
  have hl := run_loadVar_mid (P := P) w B 0 ty cs d hc hu hd hi
  have hs' : a.tmps[slot]?.getD undef = .pointer (some ⟨B, 0, none⟩) := by simpa using hs
  simp only [results, h]
  simp [hs', asAddr, hl]

theorem range_new (w : World) (c : List Value) (t : TypeId) : (w.alloc (.cells c.toArray t)).rangeAt w.heap.size 0 c := by
  intro j v hj
  rw [Nat.zero_add, World.cell?_alloc_new]; simpa using hj

set_option maxHeartbeats 1600000 in
theorem to_any (p n s0 s1 : Int) (c0 c1 e0 e1 m0 m1 m2 o0 o1 o2 o3 o4 o5 o6 o7 o8 l bu cr : Nat) (w : World) :
    Calls Try.prog 21 #[.agg #[.int .u64 p, .float .f64 c0, .float .f64 c1, .float .f64 e0, .float .f64 e1, .int .i64 n, .float .f64 m0, .float .f64 m1, .float .f64 m2, .float .f64 o0, .float .f64 o1, .float .f64 o2, .float .f64 o3, .float .f64 o4, .float .f64 o5, .float .f64 o6, .float .f64 o7, .float .f64 o8, .int .i64 s0, .int .i64 s1, .float .f64 l, .float .f64 bu, .float .f64 cr]] w
      fun e w' => e = .returned (.agg #[.int .u64 p, .float .f64 c0, .float .f64 c1, .float .f64 e0, .float .f64 e1, .int .i64 n, .float .f64 m0, .float .f64 m1, .float .f64 m2, .float .f64 o0, .float .f64 o1, .float .f64 o2, .float .f64 o3, .float .f64 o4, .float .f64 o5, .float .f64 o6, .float .f64 o7, .float .f64 o8, .int .i64 s0, .int .i64 s1, .float .f64 l, .float .f64 bu, .float .f64 cr]) ∧ Below w.heap.size w w' := by
  have hi : (Try.prog.info? 57).map (·.size) = some 23 := by kernel_rfl
  have h1 := bm_one p n s0 s1 c0 c1 e0 e1 m0 m1 m2 o0 o1 o2 o3 o4 o5 o6 o7 o8 l bu cr
  go_enter Try.func21, Try.ntmps21
  iterate 81 (first | go_step | go_skip | go_upon)
  refine wp_store_new 57 (.tmp 2) (.tmp 24) rfl (w.heap.size + 1) (by simp) _ (bm p n s0 s1 c0 c1 e0 e1 m0 m1 m2 o0 o1 o2 o3 o4 o5 o6 o7 o8 l bu cr) rfl rfl hi rfl h1 ?_
  clear hi h1
  unfold bm
  go_wp2
  refine ret_struct 2 57 Try.results21 (w.heap.size + 1) [.int .u64 p, .float .f64 c0, .float .f64 c1, .float .f64 e0, .float .f64 e1, .int .i64 n, .float .f64 m0, .float .f64 m1, .float .f64 m2, .float .f64 o0, .float .f64 o1, .float .f64 o2, .float .f64 o3, .float .f64 o4, .float .f64 o5, .float .f64 o6, .float .f64 o7, .float .f64 o8, .int .i64 s0, .int .i64 s1, .float .f64 l, .float .f64 bu, .float .f64 cr] _ rfl ?_ Try.underlying57 rfl (by kernel_rfl) rfl ⟨rfl, ((Below.refl _ _).alloc (Nat.le_refl _) _).alloc (by simp) _⟩
  have := range_new (w.alloc (.cells #[.int .u64 p, .float .f64 c0, .float .f64 c1, .float .f64 e0, .float .f64 e1, .int .i64 n, .float .f64 m0, .float .f64 m1, .float .f64 m2, .float .f64 o0, .float .f64 o1, .float .f64 o2, .float .f64 o3, .float .f64 o4, .float .f64 o5, .float .f64 o6, .float .f64 o7, .float .f64 o8, .int .i64 s0, .int .i64 s1, .float .f64 l, .float .f64 bu, .float .f64 cr] 30)) [.int .u64 p, .float .f64 c0, .float .f64 c1, .float .f64 e0, .float .f64 e1, .int .i64 n, .float .f64 m0, .float .f64 m1, .float .f64 m2, .float .f64 o0, .float .f64 o1, .float .f64 o2, .float .f64 o3, .float .f64 o4, .float .f64 o5, .float .f64 o6, .float .f64 o7, .float .f64 o8, .int .i64 s0, .int .i64 s1, .float .f64 l, .float .f64 bu, .float .f64 cr] 57
  rw [World.size_alloc] at this
  exact this

set_option maxHeartbeats 1600000 in
theorem from_any (p n s0 s1 : Int) (c0 c1 e0 e1 m0 m1 m2 o0 o1 o2 o3 o4 o5 o6 o7 o8 l bu cr : Nat) (w : World) :
    Calls Try.prog 23 #[.agg #[.int .u64 p, .float .f64 c0, .float .f64 c1, .float .f64 e0, .float .f64 e1, .int .i64 n, .float .f64 m0, .float .f64 m1, .float .f64 m2, .float .f64 o0, .float .f64 o1, .float .f64 o2, .float .f64 o3, .float .f64 o4, .float .f64 o5, .float .f64 o6, .float .f64 o7, .float .f64 o8, .int .i64 s0, .int .i64 s1, .float .f64 l, .float .f64 bu, .float .f64 cr]] w
      fun e w' => e = .returned (.agg #[.int .u64 p, .float .f64 c0, .float .f64 c1, .float .f64 e0, .float .f64 e1, .int .i64 n, .float .f64 m0, .float .f64 m1, .float .f64 m2, .float .f64 o0, .float .f64 o1, .float .f64 o2, .float .f64 o3, .float .f64 o4, .float .f64 o5, .float .f64 o6, .float .f64 o7, .float .f64 o8, .int .i64 s0, .int .i64 s1, .float .f64 l, .float .f64 bu, .float .f64 cr]) ∧ Below w.heap.size w w' := by
  have hi : (Try.prog.info? 30).map (·.size) = some 23 := by kernel_rfl
  have h1 := bm_one p n s0 s1 c0 c1 e0 e1 m0 m1 m2 o0 o1 o2 o3 o4 o5 o6 o7 o8 l bu cr
  go_enter Try.func23, Try.ntmps23
  iterate 84 (first | go_step | go_skip | go_upon)
  refine wp_store_new 30 (.tmp 2) (.tmp 25) rfl (w.heap.size + 1) (by simp) _ (bm p n s0 s1 c0 c1 e0 e1 m0 m1 m2 o0 o1 o2 o3 o4 o5 o6 o7 o8 l bu cr) rfl rfl hi rfl h1 ?_
  clear hi h1
  unfold bm
  go_wp2
  refine ret_struct 2 30 Try.results23 (w.heap.size + 1) [.int .u64 p, .float .f64 c0, .float .f64 c1, .float .f64 e0, .float .f64 e1, .int .i64 n, .float .f64 m0, .float .f64 m1, .float .f64 m2, .float .f64 o0, .float .f64 o1, .float .f64 o2, .float .f64 o3, .float .f64 o4, .float .f64 o5, .float .f64 o6, .float .f64 o7, .float .f64 o8, .int .i64 s0, .int .i64 s1, .float .f64 l, .float .f64 bu, .float .f64 cr] _ rfl ?_ Try.underlying30 rfl (by kernel_rfl) rfl ⟨rfl, ((Below.refl _ _).alloc (Nat.le_refl _) _).alloc (by simp) _⟩
  have := range_new (w.alloc (.cells #[.int .u64 p, .float .f64 c0, .float .f64 c1, .float .f64 e0, .float .f64 e1, .int .i64 n, .float .f64 m0, .float .f64 m1, .float .f64 m2, .float .f64 o0, .float .f64 o1, .float .f64 o2, .float .f64 o3, .float .f64 o4, .float .f64 o5, .float .f64 o6, .float .f64 o7, .float .f64 o8, .int .i64 s0, .int .i64 s1, .float .f64 l, .float .f64 bu, .float .f64 cr] 57)) [.int .u64 p, .float .f64 c0, .float .f64 c1, .float .f64 e0, .float .f64 e1, .int .i64 n, .float .f64 m0, .float .f64 m1, .float .f64 m2, .float .f64 o0, .float .f64 o1, .float .f64 o2, .float .f64 o3, .float .f64 o4, .float .f64 o5, .float .f64 o6, .float .f64 o7, .float .f64 o8, .int .i64 s0, .int .i64 s1, .float .f64 l, .float .f64 bu, .float .f64 cr] 30
  rw [World.size_alloc] at this
  exact this

end Go.Proofs.Qxb6600900a
