/-
  '(*rowBuffer).seal' (25) where something is pending.
-/
import Derived.Test.Qxb6602660aSealP
import Derived.Deep.DrawnRows
import Derived.BigRegion
namespace Go.Proofs.Qxb6602660a
open Go.RowKit
attribute [local go_sem ↓] Go.wp_at_zero Go.wp_at_succ

/-- What 'seal' leaves, where something is pending. -/
def Sealed (w w' : World) (P lo n lt ls : Nat) (at_ as_ : Option Addr) (width rows last : Int) (T : Nat → ByteArray) (Y : Nat → Nat) (Z : Nat → Nat → Int) (zt zs : Nat → Int) : Prop :=
  ∃ ca' cc', Holds w' P 0 6 (rbF width (.slice ca' (n + 1) cc') (.slice at_ 0 lt) (.slice as_ 0 ls) rows last) ∧
    Chs w' lo w'.heap.size (.slice ca' (n + 1) cc') (n + 1) (more T n (strZ zt lt)) (more Y n ls) (more Z n zs) ∧ Below P w w'

theorem grown_below {w w' : World} (h : w.grownBy w' none) : Below w.heap.size w w' := ⟨h.os, h.tape, h.output, h.size, fun k hk => h.block k hk (by simp)⟩

theorem rb_set3 {w : World} {P : Nat} {width rows last : Int} {cv tv sv cv' tv' sv' : Value} (h : Holds w P 0 6 (rbF width cv tv sv rows last)) :
    Holds (((w.setCell ⟨P, 1, none⟩ cv').setCell ⟨P, 2, none⟩ tv').setCell ⟨P, 3, none⟩ sv') P 0 6 (rbF width cv' tv' sv' rows last) := by
  have := ((h.set 1 (by omega) cv').set 2 (by omega) tv').set 3 (by omega) sv'
  simp only [Nat.zero_add] at this
  refine this.congr fun t ht => ?_
  rcases (show t = 0 ∨ t = 1 ∨ t = 2 ∨ t = 3 ∨ t = 4 ∨ t = 5 by omega) with rfl | rfl | rfl | rfl | rfl | rfl <;> simp [rbF, upd]

theorem rb_set3' {w : World} {P : Nat} {width rows last : Int} {cv tv sv cv' tv' sv' : Value} (h : Holds w P 0 6 (rbF width cv tv sv rows last)) :
    Holds (((w.setCell ⟨P, 1, none⟩ cv').setCell ⟨P, 3, none⟩ sv').setCell ⟨P, 2, none⟩ tv') P 0 6 (rbF width cv' tv' sv' rows last) := by
  have := ((h.set 1 (by omega) cv').set 3 (by omega) sv').set 2 (by omega) tv'
  simp only [Nat.zero_add] at this
  refine this.congr fun t ht => ?_
  rcases (show t = 0 ∨ t = 1 ∨ t = 2 ∨ t = 3 ∨ t = 4 ∨ t = 5 by omega) with rfl | rfl | rfl | rfl | rfl | rfl <;> simp [rbF, upd]

/-- wF is w2 but for block P. -/
structure But (P : Nat) (w2 wF : World) : Prop where
  os : wF.os = w2.os
  tape : wF.tape = w2.tape
  output : wF.output = w2.output
  size : wF.heap.size = w2.heap.size
  block : ∀ k, k ≠ P → wF.heap[k]? = w2.heap[k]?

theorem But.refl (P : Nat) (w : World) : But P w w := ⟨rfl, rfl, rfl, rfl, fun _ _ => rfl⟩
theorem But.drew {P : Nat} {w w' : World} (h : But P w w') : But P w w'.drew := ⟨h.os, h.tape, h.output, h.size, h.block⟩
theorem But.set {P : Nat} {w w' : World} (h : But P w w') (o : Nat) (v : Value) : But P w (w'.setCell ⟨P, o, none⟩ v) :=
  ⟨h.os, h.tape, h.output, by simpa [World.setCell] using h.size, fun k hk => by rw [Below.heap_setCell _ _ _ _ hk]; exact h.block k hk⟩
theorem But.below {P : Nat} {w w' : World} (h : But P w w') : Below P w w' := ⟨h.os, h.tape, h.output, by rw [h.size]; exact Nat.le_refl _, fun k hk => h.block k (by omega)⟩

theorem seal_post {w w2 wF : World} {P lo n lt ls g2 c2 base : Nat} {at_ as_ : Option Addr} {width rows last : Int} {T : Nat → ByteArray} {Y : Nat → Nat} {Z : Nat → Nat → Int} {V : Nat → Value} {zt zs : Nat → Int} {v1 : Value}
    (hB : Below w.heap.size w w2) (hP : P < w.heap.size) (hlo : lo ≤ P) (hbase : w.heap.size ≤ base) (hF : But P w2 wF) (hH : Holds wF P 0 6 (rbF width (.slice (some ⟨g2, 0, none⟩) (n + 1) c2) (.slice at_ 0 lt) (.slice as_ 0 ls) rows last))
    (hV : ∀ i, i < n → IsBy w lo P (V i) (Y i) (Z i)) (hown : w2.ownsRow base 46 2 (.slice (some ⟨g2, 0, none⟩) (n + 1) c2) (n + 1) (chL T V n ++ [.string (strZ zt lt), v1])) (h1 : IsBy w2 w.heap.size w2.heap.size v1 ls zs) :
    Sealed w wF P lo n lt ls at_ as_ width rows last T Y Z zt zs := by
  have hBP : Below P w wF := (hB.mono (Nat.le_of_lt hP)).trans hF.below
  have hsz := hB.size
  obtain ⟨_, _, e, hg1, hg2⟩ := hown.form (by omega)
  cases e
  refine ⟨_, _, hH, ⟨_, _, rfl, .inr ⟨g2, 0, rfl, by omega, by rw [hF.size]; exact hg2, fun i hi => ?_⟩⟩, hBP⟩
  obtain ⟨k1, k2⟩ := row_more hown i hi
  have hc : ∀ q, wF.cell? ⟨g2, q, none⟩ = w2.cell? ⟨g2, q, none⟩ := fun q => World.cell?_of_block (a := ⟨g2, q, none⟩) (hF.block g2 (by omega))
  refine ⟨(hc _).trans k1, _, (hc _).trans k2, ?_⟩
  by_cases c : i < n
  · rw [more_lt _ _ c, more_lt _ _ c, more_lt _ _ c]
    exact ((hV i c).agree (Agree.of_below hBP (Nat.le_refl _))).wide (Nat.le_refl _) (by rw [hF.size]; omega)
  · obtain rfl : i = n := by omega
    rw [more_at, more_at, more_at, hF.size]
    refine (h1.agree (fun k hk _ => hF.block k (by omega))).wide (by omega) (Nat.le_refl _)

theorem Agree.cell_at {hi : Nat} {w w' : World} (h : Agree 0 hi w w') (hw : w.heap.size ≤ hi) {a : Addr} {u : Value} (hu : w.cell? a = some u) : w'.cell? a = some u :=
  (World.cell?_of_block (a := a) (h a.block (Nat.zero_le _) (Nat.lt_of_lt_of_le (World.block_lt_of_cell? w a hu) hw))).trans hu

theorem sealS {w w' : World} {P lt ls : Nat} {at_ as_ : Option Addr} {zt : Nat → Int} (h2 : w.cell? ⟨P, 2, none⟩ = some (.slice at_ lt lt)) (h3 : w.cell? ⟨P, 3, none⟩ = some (.slice as_ ls ls)) (ht : IsBy w 0 P (.slice at_ lt lt) lt zt) (hP : P < w.heap.size) (hA : Agree 0 w.heap.size w w') :
    w'.cell? ⟨P, 2, none⟩ = some (.slice at_ lt lt) ∧ w'.cell? ⟨P, 3, none⟩ = some (.slice as_ ls ls) ∧ (convert 26 9 (.slice at_ lt lt)).run Try.prog w' = .ok (.string (strZ zt lt)) w' :=
  ⟨(hA.cell (Nat.zero_le _) hP).trans h2, (hA.cell (Nat.zero_le _) hP).trans h3, conv_of (ht.agree (hA.sub (Nat.le_refl _) (Nat.le_of_lt hP)))⟩

theorem sealS' {w w' : World} {P lt ls : Nat} {at_ as_ : Option Addr} {zt : Nat → Int} (h2 : w.cell? ⟨P, 2, none⟩ = some (.slice at_ lt lt)) (h3 : w.cell? ⟨P, 3, none⟩ = some (.slice as_ ls ls)) (ht : IsBy w 0 P (.slice at_ lt lt) lt zt) (hP : P < w.heap.size) (hA : Agree 0 w.heap.size w w') (v : Value) :
    (w'.setCell ⟨P, 1, none⟩ v).cell? ⟨P, 2, none⟩ = some (.slice at_ lt lt) ∧ (w'.setCell ⟨P, 1, none⟩ v).cell? ⟨P, 3, none⟩ = some (.slice as_ ls ls) ∧ (convert 26 9 (.slice at_ lt lt)).run Try.prog (w'.setCell ⟨P, 1, none⟩ v) = .ok (.string (strZ zt lt)) (w'.setCell ⟨P, 1, none⟩ v) := by
  obtain ⟨k2, k3, _⟩ := sealS h2 h3 ht hP hA
  refine ⟨?_, ?_, conv_of (ht.agree (fun k _ hk => ?_))⟩
  · rw [World.cell?_setCell_other _ _ _ _ (by intro h; cases h)]; exact k2
  · rw [World.cell?_setCell_other _ _ _ _ (by intro h; cases h)]; exact k3
  · rw [Below.heap_setCell _ _ _ _ (by show k ≠ P; omega)]; exact hA k (Nat.zero_le _) (by omega)

theorem Try.info5b : (Try.prog.info? 5).map (fun i => (i.zero, i.size, i.bytes)) = some (some (.int .u8 0), 1, 1) := by kernel_rfl

/-- What the end asks of the new chunk's bytes and row. -/
def SealEnd (w w2 : World) (P lo n lt ls g2 c2 : Nat) (width rows last : Int) (ca at_ as_ : Option Addr) (T : Nat → ByteArray) (Y : Nat → Nat) (Z : Nat → Nat → Int) (zt zs : Nat → Int) : Prop :=
  ∀ wF, But P w2 wF → (Holds w2 P 0 6 (rbF width (.slice ca n n) (.slice at_ lt lt) (.slice as_ ls ls) rows last) → Holds wF P 0 6 (rbF width (.slice (some ⟨g2, 0, none⟩) (n + 1) c2) (.slice at_ 0 lt) (.slice as_ 0 ls) rows last)) → Sealed w wF P lo n lt ls at_ as_ width rows last T Y Z zt zs

theorem seal_end {w w1 w2 : World} {o : Obj} {P lo n lt ls g1 c1 g2 c2 : Nat} {ca at_ as_ : Option Addr} {width rows last : Int} {T : Nat → ByteArray} {Y : Nat → Nat} {Z : Nat → Nat → Int} {V : Nat → Value} {zt zs : Nat → Int}
    (hB : Below w.heap.size w w2) (hG : Below w1.heap.size w1 w2) (hO1 : w1.ownsRow w.heap.size 5 1 (.slice (some ⟨g1, 0, none⟩) ls c1) ls (byL zs ls)) (hO2 : w2.ownsRow (w1.alloc o).heap.size 46 2 (.slice (some ⟨g2, 0, none⟩) (n + 1) c2) (n + 1) (chL T V n ++ [.string (strZ zt lt), .slice (some ⟨g1, 0, none⟩) ls c1]))
    (hV : ∀ i, i < n → IsBy w lo P (V i) (Y i) (Z i)) (hH : Holds w P 0 6 (rbF width (.slice ca n n) (.slice at_ lt lt) (.slice as_ ls ls) rows last)) (hB1 : Below w.heap.size w w1) (hP : P < w.heap.size) (hlo : lo ≤ P) :
    SealEnd w w2 P lo n lt ls g2 c2 width rows last ca at_ as_ T Y Z zt zs := by
  intro wF hF hHF
  have h1 := row_by hO1
  have hs1 := hB1.size
  refine seal_post hB hP hlo (base := (w1.alloc o).heap.size) (by simp; omega) hF (hHF (hH.below hB hP)) hV hO2 ?_
  exact (h1.agree (Agree.of_below hG (Nat.le_refl _))).wide (Nat.le_refl _) hG.size

/-- 'append([]byte(nil), b.sizes...)', at a step of the region. -/
theorem step_app1 {ops : Array Oper} {o : Oper} {a : Act} {w : World} {K : Act → World → Prop} {Q : Exit → Act → World → Prop} {E : Prop} (hg : o.guard = none) (s x : Operand)
    (hop : o.op = Op.call { callee := Callee.builtin Builtin.append, args := #[s, x], argTypes := #[26, 26] }) (sb ls : Nat) (zs : Nat → Int) (hs : a.eval s = .slice none 0 0) (hx : a.eval x = .slice (some ⟨sb, 0, none⟩) ls ls)
    (hS : Holds w sb 0 ls (u8R zs)) (h0 : 0 < ls) (hls : ls ≤ 1048576)
    (hK : ∀ g1 c1 w1, w1.ownsRow w.heap.size 5 1 (.slice (some ⟨g1, 0, none⟩) ls c1) ls (byL zs ls) → w.grownBy w1 none → K (a.put o.dst (.slice (some ⟨g1, 0, none⟩) ls c1)) w1) :
    if Region.wanted o (yielded ops a.tmps) = true then Oper.wp Try.prog o a w K Q else E := by
  obtain ⟨i5, hi5, hz0, hz1, hz2⟩ := info_parts Try.info5b
  refine step_append_grows hg s x 26 hop 5 i5 _ 1 1 Try.underlying26 hi5 hz0 hz1 hz2 rfl (by omega) none 0 0 [] hs (fun _ => ⟨rfl, rfl⟩) rfl (fun b h => by cases h) ⟨sb, 0, none⟩ ls ls (byL zs ls) hx (byL_length zs ls) (byL_cells hS) (byL_one zs ls) (by omega) (by unfold maxLen; omega) (by omega) ?_
  intro v1 w1 hown1 hgrow1
  rw [Nat.zero_add, List.nil_append] at hown1
  obtain ⟨g1, c1, rfl, _, _⟩ := hown1.form h0
  exact hK g1 c1 w1 hown1 hgrow1

/-- 'append(b.chunks, rowChunk{..})', at a step of the region. -/
theorem step_app2 {ops : Array Oper} {o : Oper} {a : Act} {w : World} {K : Act → World → Prop} {Q : Exit → Act → World → Prop} {E : Prop} (hg : o.guard = none) (s x : Operand)
    (hop : o.op = Op.call { callee := Callee.builtin Builtin.append, args := #[s, x], argTypes := #[44, 44] }) (ca : Option Addr) (n B : Nat) (T : Nat → ByteArray) (V : Nat → Value) (st : ByteArray) (a1 : Option Addr) (l1 c1 : Nat) (hs : a.eval s = .slice ca n n) (hx : a.eval x = .slice (some ⟨B, 0, none⟩) 1 1)
    (hca : ca = none → n = 0 ∧ n = 0) (hrow : ∀ b, ca = some b → ∀ j u, (chL T V n)[j]? = some u → w.cell? (b.add j) = some u) (hb : w.heap[B]? = some (.cells #[.string st, .slice a1 l1 c1] 46 (0, 0))) (hn : n ≤ 65536)
    (hK : ∀ g2 c2 w2, w2.ownsRow w.heap.size 46 2 (.slice (some ⟨g2, 0, none⟩) (n + 1) c2) (n + 1) (chL T V n ++ [.string st, .slice a1 l1 c1]) → w.grownBy w2 none → K (a.put o.dst (.slice (some ⟨g2, 0, none⟩) (n + 1) c2)) w2) :
    if Region.wanted o (yielded ops a.tmps) = true then Oper.wp Try.prog o a w K Q else E := by
  obtain ⟨i46, hi46, hy0, hy1, hy2⟩ := info_parts Try.info46
  refine step_append_grows hg s x 44 hop 46 i46 _ 2 40 Try.underlying44 hi46 hy0 hy1 hy2 rfl (by omega) ca n n (chL T V n) hs hca (chL_length T V n) hrow ⟨B, 0, none⟩ 1 1 [.string st, .slice a1 l1 c1] hx rfl (World.news_of_block hb) (by simp [Value.oneCell']) (by omega) (by unfold maxLen; omega) (by omega) ?_
  intro v2 w2 hown2 hgrow2
  obtain ⟨g2, c2, rfl, _, _⟩ := hown2.form (by omega)
  exact hK g2 c2 w2 hown2 hgrow2

set_option linter.unusedSimpArgs false in
set_option maxRecDepth 100000 in
set_option maxHeartbeats 3200000 in
theorem seal_some (P lo n lt ls sb : Nat) (ca at_ : Option Addr) (width rows last : Int) (T : Nat → ByteArray) (Y : Nat → Nat) (Z : Nat → Nat → Int) (zt zs : Nat → Int) (w : World) (h0 : 0 < ls) (hls : ls ≤ 1048576) (hn : n ≤ 65536) (hlo : lo ≤ P)
    (hH : Holds w P 0 6 (rbF width (.slice ca n n) (.slice at_ lt lt) (.slice (some ⟨sb, 0, none⟩) ls ls) rows last)) (hC : Chs w lo P (.slice ca n n) n T Y Z) (hT : IsBy w 0 P (.slice at_ lt lt) lt zt) (hS : Holds w sb 0 ls (u8R zs)) :
    Calls Try.prog 25 #[.pointer (some ⟨P, 0, none⟩)] w fun e w' => e = .returned (.tuple #[]) ∧ Sealed w w' P lo n lt ls at_ (some ⟨sb, 0, none⟩) width rows last T Y Z zt zs := by
  have hPw : P < w.heap.size := hH.lt (by omega)
  obtain ⟨V, hV, hrow⟩ := chs_row hC
  have p1 : w.cell? ⟨P, 1, none⟩ = some (.slice ca n n) := hH.cell 1 (by omega)
  have p2 : w.cell? ⟨P, 2, none⟩ = some (.slice at_ lt lt) := hH.cell 2 (by omega)
  have p3 : w.cell? ⟨P, 3, none⟩ = some (.slice (some ⟨sb, 0, none⟩) ls ls) := hH.cell 3 (by omega)
  have f1 : w.frozen? ⟨P, 1, none⟩ = false := hH.free 1 (by omega)
  have f2 : w.frozen? ⟨P, 2, none⟩ = false := hH.free 2 (by omega)
  have f3 : w.frozen? ⟨P, 3, none⟩ = false := hH.free 3 (by omega)
  have HC := hid hC
  have HT := hid hT
  have HSS := hid hS
  have HH := hid hH
  have HV := hid hV
  have HR := hid hrow
  have hca : ca = none → n = 0 ∧ n = 0 := by
    intro e
    obtain ⟨_, _, e2, h | ⟨b, off, e3, _⟩⟩ := hC
    · exact ⟨h, h⟩
    · cases e2; subst e; cases e3
  have HCA := hid hca
  clear hC hT hS hH hV hrow hca
  go_enter Try.func25, Try.ntmps25
  go_wp2_with fail
  refine wp_region_noPanic ?_
  refine wp_region_held_drew (S := fun w' => w'.cell? ⟨P, 2, none⟩ = some (.slice at_ lt lt) ∧ w'.cell? ⟨P, 3, none⟩ = some (.slice (some ⟨sb, 0, none⟩) ls ls) ∧ (convert 26 9 (.slice at_ lt lt)).run Try.prog w' = .ok (.string (strZ zt lt)) w') (by kernel_rfl) (sealS p2 p3 HT.out hPw (fun _ _ _ => rfl)) (fun hS0 => ?_)
  have HS0 := hid hS0
  clear hS0
  refine wpAnyH_take (i := 0) (v := .pointer (some ⟨P, 0, none⟩)) rfl (by kernel_rfl) (by kernel_rfl) (by kernel_rfl) (fun _ _ _ h => h) (Or.inl ⟨by rfl, fun w' hw => ?_⟩) HS0.out ?_
  · obtain ⟨x2, x3, xc⟩ := hw
    go_simp
  simp only [List.getElem_toArray, List.getElem_cons_zero, List.getElem_cons_succ, Act.put, List.setIfInBounds_toArray, List.set_cons_zero, List.set_cons_succ]
  refine wpAnyH_take (i := 1) (v := .pointer (some ⟨P, 0, none⟩)) rfl (by kernel_rfl) (by kernel_rfl) (by kernel_rfl) (fun _ _ _ h => h) (Or.inl ⟨by rfl, fun w' hw => ?_⟩) HS0.out ?_
  · obtain ⟨x2, x3, xc⟩ := hw
    go_simp
  simp only [List.getElem_toArray, List.getElem_cons_zero, List.getElem_cons_succ, Act.put, List.setIfInBounds_toArray, List.set_cons_zero, List.set_cons_succ]
  refine wpAnyH_take (i := 2) (v := .pointer (some ⟨P, 0, none⟩)) rfl (by kernel_rfl) (by kernel_rfl) (by kernel_rfl) (fun _ _ _ h => h) (Or.inl ⟨by rfl, fun w' hw => ?_⟩) HS0.out ?_
  · obtain ⟨x2, x3, xc⟩ := hw
    go_simp
  simp only [List.getElem_toArray, List.getElem_cons_zero, List.getElem_cons_succ, Act.put, List.setIfInBounds_toArray, List.set_cons_zero, List.set_cons_succ]
  refine wpAnyH_take (i := 3) (v := .pointer (some ⟨P, 1, none⟩)) rfl (by kernel_rfl) (by kernel_rfl) (by kernel_rfl) (fun _ _ _ h => h) (Or.inl ⟨by rfl, fun w' hw => ?_⟩) HS0.out ?_
  · obtain ⟨x2, x3, xc⟩ := hw
    go_simp
  simp only [List.getElem_toArray, List.getElem_cons_zero, List.getElem_cons_succ, Act.put, List.setIfInBounds_toArray, List.set_cons_zero, List.set_cons_succ]
  refine wpAnyH_take (i := 5) (v := .pointer (some ⟨P, 0, none⟩)) rfl (by kernel_rfl) (by kernel_rfl) (by kernel_rfl) (fun _ _ _ h => h) (Or.inl ⟨by rfl, fun w' hw => ?_⟩) HS0.out ?_
  · obtain ⟨x2, x3, xc⟩ := hw
    go_simp
  simp only [List.getElem_toArray, List.getElem_cons_zero, List.getElem_cons_succ, Act.put, List.setIfInBounds_toArray, List.set_cons_zero, List.set_cons_succ]
  refine wpAnyH_take (i := 6) (v := .pointer (some ⟨P, 0, none⟩)) rfl (by kernel_rfl) (by kernel_rfl) (by kernel_rfl) (fun _ _ _ h => h) (Or.inl ⟨by rfl, fun w' hw => ?_⟩) HS0.out ?_
  · obtain ⟨x2, x3, xc⟩ := hw
    go_simp
  simp only [List.getElem_toArray, List.getElem_cons_zero, List.getElem_cons_succ, Act.put, List.setIfInBounds_toArray, List.set_cons_zero, List.set_cons_succ]
  refine wpAnyH_take (i := 7) (v := .pointer (some ⟨P, 2, none⟩)) rfl (by kernel_rfl) (by kernel_rfl) (by kernel_rfl) (fun _ _ _ h => h) (Or.inl ⟨by rfl, fun w' hw => ?_⟩) HS0.out ?_
  · obtain ⟨x2, x3, xc⟩ := hw
    go_simp
  simp only [List.getElem_toArray, List.getElem_cons_zero, List.getElem_cons_succ, Act.put, List.setIfInBounds_toArray, List.set_cons_zero, List.set_cons_succ]
  refine wpAnyH_take (i := 8) (v := .slice at_ lt lt) rfl (by kernel_rfl) (by kernel_rfl) (by kernel_rfl) (fun _ _ _ h => h) (Or.inl ⟨by rfl, fun w' hw => ?_⟩) HS0.out ?_
  · obtain ⟨x2, x3, xc⟩ := hw
    go_simp
  simp only [List.getElem_toArray, List.getElem_cons_zero, List.getElem_cons_succ, Act.put, List.setIfInBounds_toArray, List.set_cons_zero, List.set_cons_succ]
  refine wpAnyH_take (i := 9) (v := .string (strZ zt lt)) rfl (by kernel_rfl) (by kernel_rfl) (by kernel_rfl) (fun _ _ _ h => h) (Or.inl ⟨by rfl, fun w' hw => ?_⟩) HS0.out ?_
  · obtain ⟨x2, x3, xc⟩ := hw
    go_simp
  simp only [List.getElem_toArray, List.getElem_cons_zero, List.getElem_cons_succ, Act.put, List.setIfInBounds_toArray, List.set_cons_zero, List.set_cons_succ]
  refine wpAnyH_take (i := 10) (v := .pointer (some ⟨P, 0, none⟩)) rfl (by kernel_rfl) (by kernel_rfl) (by kernel_rfl) (fun _ _ _ h => h) (Or.inl ⟨by rfl, fun w' hw => ?_⟩) HS0.out ?_
  · obtain ⟨x2, x3, xc⟩ := hw
    go_simp
  simp only [List.getElem_toArray, List.getElem_cons_zero, List.getElem_cons_succ, Act.put, List.setIfInBounds_toArray, List.set_cons_zero, List.set_cons_succ]
  refine wpAnyH_take (i := 11) (v := .pointer (some ⟨P, 0, none⟩)) rfl (by kernel_rfl) (by kernel_rfl) (by kernel_rfl) (fun _ _ _ h => h) (Or.inl ⟨by rfl, fun w' hw => ?_⟩) HS0.out ?_
  · obtain ⟨x2, x3, xc⟩ := hw
    go_simp
  simp only [List.getElem_toArray, List.getElem_cons_zero, List.getElem_cons_succ, Act.put, List.setIfInBounds_toArray, List.set_cons_zero, List.set_cons_succ]
  refine wpAnyH_take (i := 12) (v := .pointer (some ⟨P, 3, none⟩)) rfl (by kernel_rfl) (by kernel_rfl) (by kernel_rfl) (fun _ _ _ h => h) (Or.inl ⟨by rfl, fun w' hw => ?_⟩) HS0.out ?_
  · obtain ⟨x2, x3, xc⟩ := hw
    go_simp
  simp only [List.getElem_toArray, List.getElem_cons_zero, List.getElem_cons_succ, Act.put, List.setIfInBounds_toArray, List.set_cons_zero, List.set_cons_succ]
  refine wpAnyH_take (i := 13) (v := .slice (some ⟨sb, 0, none⟩) ls ls) rfl (by kernel_rfl) (by kernel_rfl) (by kernel_rfl) (fun _ _ _ h => h) (Or.inl ⟨by rfl, fun w' hw => ?_⟩) HS0.out ?_
  · obtain ⟨x2, x3, xc⟩ := hw
    go_simp
  simp only [List.getElem_toArray, List.getElem_cons_zero, List.getElem_cons_succ, Act.put, List.setIfInBounds_toArray, List.set_cons_zero, List.set_cons_succ]
  refine wpAnyH_ready (rs := [4, 14]) (by kernel_rfl) (by simp) (AllReadyH.cons rfl (fun K1 hK1 => ?_) (AllReadyH.cons rfl (fun K1 hK1 => ?_) AllReadyH.nil))
  · skip
    go_simp
    refine hK1.out _ _ HS0.out (fun _ => ?_)
    refine wpAnyH_ready (rs := [14]) (by kernel_rfl) (by simp) (AllReadyH.cons rfl (fun K2 hK2 => ?_) AllReadyH.nil)
    refine step_app1 (by rfl) _ _ (by rfl) sb ls zs (by rfl) (by rfl) HSS.out h0 hls ?_
    intro g1 c1 w1 hown1 hgrow1
    have HO1 := hid hown1
    have HB1 : Hid (Below w.heap.size w w1) := (Below.refl _ _).drew.trans (grown_below hgrow1)
    have HA1 : Hid (∀ o, Agree 0 w.heap.size w (w1.alloc o)) := fun o => Agree.of_below (HB1.out.alloc HB1.out.size o) (Nat.le_refl _)
    have HS1 := hid (sealS p2 p3 HT.out hPw (Agree.of_below HB1.out (Nat.le_refl _)))
    have HSA := hid (sealS p2 p3 HT.out hPw (HA1.out (.cells #[.string (strZ zt lt), .slice (some ⟨g1, 0, none⟩) ls c1] 46)))
    have q1 : w1.cell? ⟨P, 1, none⟩ = some (.slice ca n n) := (HB1.out.cell (p := ⟨P, 1, none⟩) hPw).trans p1
    have hw1 : P < w1.heap.size := Nat.lt_of_lt_of_le hPw HB1.out.size
    clear hown1 hgrow1
    refine hK2.out _ _ HS1.out (fun _ => ?_)
    simp only [List.getElem_toArray, List.getElem_cons_zero, List.getElem_cons_succ, Act.put, List.setIfInBounds_toArray, List.set_cons_zero, List.set_cons_succ]
    refine wpAnyH_take (i := 15) (v := .agg #[.string (strZ zt lt), .slice (some ⟨g1, 0, none⟩) ls c1]) rfl (by kernel_rfl) (by kernel_rfl) (by kernel_rfl) (fun _ _ _ h => h) (Or.inl ⟨by rfl, fun w' hw => ?_⟩) HS1.out ?_
    · obtain ⟨x2, x3, xc⟩ := hw
      go_simp
    simp only [List.getElem_toArray, List.getElem_cons_zero, List.getElem_cons_succ, Act.put, List.setIfInBounds_toArray, List.set_cons_zero, List.set_cons_succ]
    refine wpAnyH_ready (rs := [16]) (by kernel_rfl) (by simp) (AllReadyH.cons rfl (fun K3 hK3 => ?_) AllReadyH.nil)
    go_simp
    refine hK3.out _ _ HSA.out (fun _ => ?_)
    refine wpAnyH_ready (rs := [17]) (by kernel_rfl) (by simp) (AllReadyH.cons rfl (fun K4 hK4 => ?_) AllReadyH.nil)
    refine step_app2 (by rfl) _ _ (by rfl) ca n w1.heap.size T V (strZ zt lt) (some ⟨g1, 0, none⟩) ls c1 (by rfl) (by rfl) HCA.out (fun b e j u hu => (HA1.out _).cell_at (Nat.le_refl _) (HR.out b e j u hu)) (heap_alloc_new w1 _) hn ?_
    intro g2 c2 w2 hown2 hgrow2
    have HO2 := hid hown2
    have HB2 : Hid (Below w.heap.size w w2) := (HB1.out.alloc HB1.out.size _).trans ((grown_below hgrow2).mono (by simp; have := HB1.out.size; omega))
    have HG2 : Hid (Below w1.heap.size w1 w2) := ((Below.refl _ _).alloc (Nat.le_refl _) _).trans ((grown_below hgrow2).mono (by simp))
    have HS2 := hid (sealS p2 p3 HT.out hPw (Agree.of_below HB2.out (Nat.le_refl _)))
    have HS3 := hid (sealS' p2 p3 HT.out hPw (Agree.of_below HB2.out (Nat.le_refl _)) (.slice (some ⟨g2, 0, none⟩) (n + 1) c2))
    have r1 : w2.cell? ⟨P, 1, none⟩ = some (.slice ca n n) := (HB2.out.cell (p := ⟨P, 1, none⟩) hPw).trans p1
    have y1 : w2.frozen? ⟨P, 1, none⟩ = false := (HB2.out.frozen (p := ⟨P, 1, none⟩) hPw).trans f1
    have r2 : w2.cell? ⟨P, 2, none⟩ = some (.slice at_ lt lt) := (HB2.out.cell (p := ⟨P, 2, none⟩) hPw).trans p2
    have y2 : w2.frozen? ⟨P, 2, none⟩ = false := (HB2.out.frozen (p := ⟨P, 2, none⟩) hPw).trans f2
    have r3 : w2.cell? ⟨P, 3, none⟩ = some (.slice (some ⟨sb, 0, none⟩) ls ls) := (HB2.out.cell (p := ⟨P, 3, none⟩) hPw).trans p3
    have y3 : w2.frozen? ⟨P, 3, none⟩ = false := (HB2.out.frozen (p := ⟨P, 3, none⟩) hPw).trans f3
    clear hown2 hgrow2 q1 HSA
    refine hK4.out _ _ HS2.out (fun _ => ?_)
    simp only [List.getElem_toArray, List.getElem_cons_zero, List.getElem_cons_succ, Act.put, List.setIfInBounds_toArray, List.set_cons_zero, List.set_cons_succ]
    refine wpAnyH_take (i := 18) (v := .pointer (some ⟨P, 0, none⟩)) rfl (by kernel_rfl) (by kernel_rfl) (by kernel_rfl) (fun _ _ _ h => h) (Or.inl ⟨by rfl, fun w' hw => ?_⟩) HS2.out ?_
    · obtain ⟨x2, x3, xc⟩ := hw
      go_simp
    simp only [List.getElem_toArray, List.getElem_cons_zero, List.getElem_cons_succ, Act.put, List.setIfInBounds_toArray, List.set_cons_zero, List.set_cons_succ]
    refine wpAnyH_take (i := 19) (v := .pointer (some ⟨P, 1, none⟩)) rfl (by kernel_rfl) (by kernel_rfl) (by kernel_rfl) (fun _ _ _ h => h) (Or.inl ⟨by rfl, fun w' hw => ?_⟩) HS2.out ?_
    · obtain ⟨x2, x3, xc⟩ := hw
      go_simp
    simp only [List.getElem_toArray, List.getElem_cons_zero, List.getElem_cons_succ, Act.put, List.setIfInBounds_toArray, List.set_cons_zero, List.set_cons_succ]
    refine wpAnyH_ready (rs := [20]) (by kernel_rfl) (by simp) (AllReadyH.cons rfl (fun K5 hK5 => ?_) AllReadyH.nil)
    go_simp
    refine hK5.out _ _ HS3.out (fun _ => ?_)
    refine wpAnyH_done (by kernel_rfl) ?_ _
    have HE := hid (seal_end HB2.out HG2.out HO1.out HO2.out HV.out HH.out HB1.out hPw hlo)
    clear HB1 HA1 HS1 HO1 HO2 HG2 HB2 HS2 HS3 r1 y1 hw1
    refine NoPanic.normal ?_
    go_wp2_with fail
    go_region
    go_end0
    exact ⟨rfl, HE.out _ (((((But.refl P w2).set 1 _).set 2 _).set 3 _).drew) (fun h => (rb_set3 h).drew)⟩
  · skip
    refine step_app1 (by rfl) _ _ (by rfl) sb ls zs (by rfl) (by rfl) HSS.out h0 hls ?_
    intro g1 c1 w1 hown1 hgrow1
    have HO1 := hid hown1
    have HB1 : Hid (Below w.heap.size w w1) := (Below.refl _ _).drew.trans (grown_below hgrow1)
    have HA1 : Hid (∀ o, Agree 0 w.heap.size w (w1.alloc o)) := fun o => Agree.of_below (HB1.out.alloc HB1.out.size o) (Nat.le_refl _)
    have HS1 := hid (sealS p2 p3 HT.out hPw (Agree.of_below HB1.out (Nat.le_refl _)))
    have HSA := hid (sealS p2 p3 HT.out hPw (HA1.out (.cells #[.string (strZ zt lt), .slice (some ⟨g1, 0, none⟩) ls c1] 46)))
    have q1 : w1.cell? ⟨P, 1, none⟩ = some (.slice ca n n) := (HB1.out.cell (p := ⟨P, 1, none⟩) hPw).trans p1
    have hw1 : P < w1.heap.size := Nat.lt_of_lt_of_le hPw HB1.out.size
    clear hown1 hgrow1
    refine hK1.out _ _ HS1.out (fun _ => ?_)
    simp only [List.getElem_toArray, List.getElem_cons_zero, List.getElem_cons_succ, Act.put, List.setIfInBounds_toArray, List.set_cons_zero, List.set_cons_succ]
    refine wpAnyH_take (i := 15) (v := .agg #[.string (strZ zt lt), .slice (some ⟨g1, 0, none⟩) ls c1]) rfl (by kernel_rfl) (by kernel_rfl) (by kernel_rfl) (fun _ _ _ h => h) (Or.inl ⟨by rfl, fun w' hw => ?_⟩) HS1.out ?_
    · obtain ⟨x2, x3, xc⟩ := hw
      go_simp
    simp only [List.getElem_toArray, List.getElem_cons_zero, List.getElem_cons_succ, Act.put, List.setIfInBounds_toArray, List.set_cons_zero, List.set_cons_succ]
    refine wpAnyH_ready (rs := [4, 16]) (by kernel_rfl) (by simp) (AllReadyH.cons rfl (fun K2 hK2 => ?_) (AllReadyH.cons rfl (fun K2 hK2 => ?_) AllReadyH.nil))
    · skip
      go_simp
      refine hK2.out _ _ HS1.out (fun _ => ?_)
      refine wpAnyH_ready (rs := [16]) (by kernel_rfl) (by simp) (AllReadyH.cons rfl (fun K3 hK3 => ?_) AllReadyH.nil)
      go_simp
      refine hK3.out _ _ HSA.out (fun _ => ?_)
      refine wpAnyH_ready (rs := [17]) (by kernel_rfl) (by simp) (AllReadyH.cons rfl (fun K4 hK4 => ?_) AllReadyH.nil)
      refine step_app2 (by rfl) _ _ (by rfl) ca n w1.heap.size T V (strZ zt lt) (some ⟨g1, 0, none⟩) ls c1 (by rfl) (by rfl) HCA.out (fun b e j u hu => (HA1.out _).cell_at (Nat.le_refl _) (HR.out b e j u hu)) (heap_alloc_new w1 _) hn ?_
      intro g2 c2 w2 hown2 hgrow2
      have HO2 := hid hown2
      have HB2 : Hid (Below w.heap.size w w2) := (HB1.out.alloc HB1.out.size _).trans ((grown_below hgrow2).mono (by simp; have := HB1.out.size; omega))
      have HG2 : Hid (Below w1.heap.size w1 w2) := ((Below.refl _ _).alloc (Nat.le_refl _) _).trans ((grown_below hgrow2).mono (by simp))
      have HS2 := hid (sealS p2 p3 HT.out hPw (Agree.of_below HB2.out (Nat.le_refl _)))
      have HS3 := hid (sealS' p2 p3 HT.out hPw (Agree.of_below HB2.out (Nat.le_refl _)) (.slice (some ⟨g2, 0, none⟩) (n + 1) c2))
      have r1 : w2.cell? ⟨P, 1, none⟩ = some (.slice ca n n) := (HB2.out.cell (p := ⟨P, 1, none⟩) hPw).trans p1
      have y1 : w2.frozen? ⟨P, 1, none⟩ = false := (HB2.out.frozen (p := ⟨P, 1, none⟩) hPw).trans f1
      have r2 : w2.cell? ⟨P, 2, none⟩ = some (.slice at_ lt lt) := (HB2.out.cell (p := ⟨P, 2, none⟩) hPw).trans p2
      have y2 : w2.frozen? ⟨P, 2, none⟩ = false := (HB2.out.frozen (p := ⟨P, 2, none⟩) hPw).trans f2
      have r3 : w2.cell? ⟨P, 3, none⟩ = some (.slice (some ⟨sb, 0, none⟩) ls ls) := (HB2.out.cell (p := ⟨P, 3, none⟩) hPw).trans p3
      have y3 : w2.frozen? ⟨P, 3, none⟩ = false := (HB2.out.frozen (p := ⟨P, 3, none⟩) hPw).trans f3
      clear hown2 hgrow2 q1 HSA
      refine hK4.out _ _ HS2.out (fun _ => ?_)
      simp only [List.getElem_toArray, List.getElem_cons_zero, List.getElem_cons_succ, Act.put, List.setIfInBounds_toArray, List.set_cons_zero, List.set_cons_succ]
      refine wpAnyH_take (i := 18) (v := .pointer (some ⟨P, 0, none⟩)) rfl (by kernel_rfl) (by kernel_rfl) (by kernel_rfl) (fun _ _ _ h => h) (Or.inl ⟨by rfl, fun w' hw => ?_⟩) HS2.out ?_
      · obtain ⟨x2, x3, xc⟩ := hw
        go_simp
      simp only [List.getElem_toArray, List.getElem_cons_zero, List.getElem_cons_succ, Act.put, List.setIfInBounds_toArray, List.set_cons_zero, List.set_cons_succ]
      refine wpAnyH_take (i := 19) (v := .pointer (some ⟨P, 1, none⟩)) rfl (by kernel_rfl) (by kernel_rfl) (by kernel_rfl) (fun _ _ _ h => h) (Or.inl ⟨by rfl, fun w' hw => ?_⟩) HS2.out ?_
      · obtain ⟨x2, x3, xc⟩ := hw
        go_simp
      simp only [List.getElem_toArray, List.getElem_cons_zero, List.getElem_cons_succ, Act.put, List.setIfInBounds_toArray, List.set_cons_zero, List.set_cons_succ]
      refine wpAnyH_ready (rs := [20]) (by kernel_rfl) (by simp) (AllReadyH.cons rfl (fun K5 hK5 => ?_) AllReadyH.nil)
      go_simp
      refine hK5.out _ _ HS3.out (fun _ => ?_)
      refine wpAnyH_done (by kernel_rfl) ?_ _
      have HE := hid (seal_end HB2.out HG2.out HO1.out HO2.out HV.out HH.out HB1.out hPw hlo)
      clear HB1 HA1 HS1 HO1 HO2 HG2 HB2 HS2 HS3 r1 y1 hw1
      refine NoPanic.normal ?_
      go_wp2_with fail
      go_region
      go_end0
      exact ⟨rfl, HE.out _ (((((But.refl P w2).set 1 _).set 2 _).set 3 _).drew) (fun h => (rb_set3 h).drew)⟩
    · skip
      go_simp
      refine hK2.out _ _ HSA.out (fun _ => ?_)
      refine wpAnyH_ready (rs := [4]) (by kernel_rfl) (by simp) (AllReadyH.cons rfl (fun K3 hK3 => ?_) AllReadyH.nil)
      go_simp
      refine hK3.out _ _ HSA.out (fun _ => ?_)
      refine wpAnyH_ready (rs := [17]) (by kernel_rfl) (by simp) (AllReadyH.cons rfl (fun K4 hK4 => ?_) AllReadyH.nil)
      refine step_app2 (by rfl) _ _ (by rfl) ca n w1.heap.size T V (strZ zt lt) (some ⟨g1, 0, none⟩) ls c1 (by rfl) (by rfl) HCA.out (fun b e j u hu => (HA1.out _).cell_at (Nat.le_refl _) (HR.out b e j u hu)) (heap_alloc_new w1 _) hn ?_
      intro g2 c2 w2 hown2 hgrow2
      have HO2 := hid hown2
      have HB2 : Hid (Below w.heap.size w w2) := (HB1.out.alloc HB1.out.size _).trans ((grown_below hgrow2).mono (by simp; have := HB1.out.size; omega))
      have HG2 : Hid (Below w1.heap.size w1 w2) := ((Below.refl _ _).alloc (Nat.le_refl _) _).trans ((grown_below hgrow2).mono (by simp))
      have HS2 := hid (sealS p2 p3 HT.out hPw (Agree.of_below HB2.out (Nat.le_refl _)))
      have HS3 := hid (sealS' p2 p3 HT.out hPw (Agree.of_below HB2.out (Nat.le_refl _)) (.slice (some ⟨g2, 0, none⟩) (n + 1) c2))
      have r1 : w2.cell? ⟨P, 1, none⟩ = some (.slice ca n n) := (HB2.out.cell (p := ⟨P, 1, none⟩) hPw).trans p1
      have y1 : w2.frozen? ⟨P, 1, none⟩ = false := (HB2.out.frozen (p := ⟨P, 1, none⟩) hPw).trans f1
      have r2 : w2.cell? ⟨P, 2, none⟩ = some (.slice at_ lt lt) := (HB2.out.cell (p := ⟨P, 2, none⟩) hPw).trans p2
      have y2 : w2.frozen? ⟨P, 2, none⟩ = false := (HB2.out.frozen (p := ⟨P, 2, none⟩) hPw).trans f2
      have r3 : w2.cell? ⟨P, 3, none⟩ = some (.slice (some ⟨sb, 0, none⟩) ls ls) := (HB2.out.cell (p := ⟨P, 3, none⟩) hPw).trans p3
      have y3 : w2.frozen? ⟨P, 3, none⟩ = false := (HB2.out.frozen (p := ⟨P, 3, none⟩) hPw).trans f3
      clear hown2 hgrow2 q1 HSA
      refine hK4.out _ _ HS2.out (fun _ => ?_)
      simp only [List.getElem_toArray, List.getElem_cons_zero, List.getElem_cons_succ, Act.put, List.setIfInBounds_toArray, List.set_cons_zero, List.set_cons_succ]
      refine wpAnyH_take (i := 18) (v := .pointer (some ⟨P, 0, none⟩)) rfl (by kernel_rfl) (by kernel_rfl) (by kernel_rfl) (fun _ _ _ h => h) (Or.inl ⟨by rfl, fun w' hw => ?_⟩) HS2.out ?_
      · obtain ⟨x2, x3, xc⟩ := hw
        go_simp
      simp only [List.getElem_toArray, List.getElem_cons_zero, List.getElem_cons_succ, Act.put, List.setIfInBounds_toArray, List.set_cons_zero, List.set_cons_succ]
      refine wpAnyH_take (i := 19) (v := .pointer (some ⟨P, 1, none⟩)) rfl (by kernel_rfl) (by kernel_rfl) (by kernel_rfl) (fun _ _ _ h => h) (Or.inl ⟨by rfl, fun w' hw => ?_⟩) HS2.out ?_
      · obtain ⟨x2, x3, xc⟩ := hw
        go_simp
      simp only [List.getElem_toArray, List.getElem_cons_zero, List.getElem_cons_succ, Act.put, List.setIfInBounds_toArray, List.set_cons_zero, List.set_cons_succ]
      refine wpAnyH_ready (rs := [20]) (by kernel_rfl) (by simp) (AllReadyH.cons rfl (fun K5 hK5 => ?_) AllReadyH.nil)
      go_simp
      refine hK5.out _ _ HS3.out (fun _ => ?_)
      refine wpAnyH_done (by kernel_rfl) ?_ _
      have HE := hid (seal_end HB2.out HG2.out HO1.out HO2.out HV.out HH.out HB1.out hPw hlo)
      clear HB1 HA1 HS1 HO1 HO2 HG2 HB2 HS2 HS3 r1 y1 hw1
      refine NoPanic.normal ?_
      go_wp2_with fail
      go_region
      go_end0
      exact ⟨rfl, HE.out _ (((((But.refl P w2).set 1 _).set 2 _).set 3 _).drew) (fun h => (rb_set3 h).drew)⟩

end Go.Proofs.Qxb6602660a
