import Derived.Test.Qxb6602660aMain0
import Derived.Test.Qxb6602660aMain1
import Derived.Test.Qxb6602660aOpen
import Derived.ProofKit
import Derived.OpenShut
import Derived.ChangeOld
namespace Go.Proofs.Qxb6602660a
open Go.RowKit
open Go.ChangeShapes Go.WideShapes Go.ChangeAt

theorem main_walk (n cap lt ct ls cs : Nat) (a at_ as_ : Option Addr) (width rows last : Int) (T : Nat → ByteArray) (Y : Nat → Nat) (Z : Nat → Nat → Int) (zt zs : Nat → Int) (w : World) (hn : n ≤ maxLen) (hlt : lt ≤ maxLen) (hls : ls ≤ maxLen) (hm : ∀ i, i < n → (T i).size ≤ maxLen ∧ Y i ≤ maxLen)
    (hC : Chs w 0 w.heap.size (.slice a n cap) n T Y Z) (hT : IsBy w 0 w.heap.size (.slice at_ lt ct) lt zt) (hS : IsBy w 0 w.heap.size (.slice as_ ls cs) ls zs) :
    Calls Try.prog 5 #[.int .i64 width, .slice a n cap, .slice at_ lt ct, .slice as_ ls cs, .int .i64 rows, .int .i64 last] w fun e w' => e = .returned (.bool true) ∧ Below w.heap.size w w' := by
  by_cases h0 : ls = 0
  · subst h0
    exact main_zero n cap lt ct cs a at_ as_ width rows last T Y Z zt zs w hn hlt hm hC hT hS
  · exact main_some n cap lt ct ls cs a at_ as_ width rows last T Y Z zt zs w (by omega) hn hlt hls hm hC hT hS

namespace fnRowBufferSealMatchesModel
set_option linter.unusedVariables false

theorem own : ownKnob Try.prog.godebug = none := by kernel_rfl
theorem laidOut : laidOutB Try.prog = true := by kernel_rfl

set_option maxRecDepth 100000 in
theorem lifted (os : Os) (started : os.Started) (H : Type) (enc : TypeId × Value → H) :
    ReturnsInHanded {} Try.checked os 5 .any (Rows.fnRowBufferSealMatchesModelSpec.pre6 enc Try.prog Try.f5 Rows.fnRowBufferSealMatchesModelRow.domain false) (Rows.fnRowBufferSealMatchesModelSpec.post enc Try.prog Try.f5 false true false false) := by
  refine returnsInHanded_of_change (C := Try.checked) own started (by kernel_rfl) Try.func5
    (ChangeSpec.witness6 (enc := enc) (C := Try.checked) false ⟨#[], #[.int .i64 0, .slice none 0 0, .slice none 0 0, .slice none 0 0, .int .i64 0, .int .i64 0], []⟩ 8 (by kernel_rfl) (by kernel_rfl) (by kernel_rfl) (by kernel_rfl)) ?_
  intro W base args ds gs before hval0 hW hcnd _
  have hval : ∀ (j : Nat) t v, Try.f5.params[j]? = some t → args[j]? = some v → Value.okWide Try.prog W .any base t v := hval0
  have hW' := hW
  obtain ⟨p, q, hA0, hV, rfl, hfz, hnd⟩ := hW
  have hA : DataW.TrodAll enc Try.prog W 0 (fun _ => true) true Try.f5.params.toList args.toList ds p := hA0
  rw [Try.params5] at hA hval
  obtain ⟨v0, vs0, d0, ds0, p0, q0, hargs, rfl, rfl, h0, r0⟩ := trodAll_cons hA
  obtain ⟨v1, vs1, d1, ds1, p1, q1, rfl, rfl, rfl, h1, r1⟩ := trodAll_cons r0
  obtain ⟨v2, vs2, d2, ds2, p2, q2, rfl, rfl, rfl, h2, r2⟩ := trodAll_cons r1
  obtain ⟨v3, vs3, d3, ds3, p3, q3, rfl, rfl, rfl, h3, r3⟩ := trodAll_cons r2
  obtain ⟨v4, vs4, d4, ds4, p4, q4, rfl, rfl, rfl, h4, r4⟩ := trodAll_cons r3
  obtain ⟨v5, vs5, d5, ds5, p5, q5, rfl, rfl, rfl, h5, r5⟩ := trodAll_cons r4
  obtain ⟨rfl, rfl, rfl⟩ := trodAll_nil r5
  obtain rfl : args = #[v0, v1, v2, v3, v4, v5] := by cases args; simp_all
  obtain ⟨rfl, rfl⟩ := trodVars_none hV
  obtain ⟨a0, rfl, rfl, rfl, w0⟩ := open_int Try.underlying3 (hval 0 3 v0 rfl rfl) h0
  obtain ⟨a1, len1, cap1, rfl⟩ := okWide_slice Try.underlying25 (hval 1 25 v1 rfl rfl)
  obtain ⟨a2, len2, cap2, rfl⟩ := okWide_slice Try.underlying26 (hval 2 26 v2 rfl rfl)
  obtain ⟨a3, len3, cap3, rfl⟩ := okWide_slice Try.underlying26 (hval 3 26 v3 rfl rfl)
  obtain ⟨a4, rfl, rfl, rfl, w4⟩ := open_int Try.underlying3 (hval 4 3 v4 rfl rfl) h4
  obtain ⟨a5, rfl, rfl, rfl, w5⟩ := open_int Try.underlying3 (hval 5 3 v5 rfl rfl) h5
  have k1 := h1
  have k2 := h2
  have k3 := h3
  have lt1 : ∀ x ∈ p1, x.block < W.heap.size := by obtain ⟨m, hm⟩ := k1; exact DataW.trod_lt m _ _ _ hm
  have lt2 : ∀ x ∈ p2, x.block < W.heap.size := by obtain ⟨m, hm⟩ := k2; exact DataW.trod_lt m _ _ _ hm
  have lt3 : ∀ x ∈ p3, x.block < W.heap.size := by obtain ⟨m, hm⟩ := k3; exact DataW.trod_lt m _ _ _ hm
  obtain ⟨T, Y, Z, hn, hm, hC⟩ : ∃ T Y Z, len1 ≤ maxLen ∧ (∀ i, i < len1 → (T i : ByteArray).size ≤ maxLen ∧ Y i ≤ maxLen) ∧ Chs W 0 W.heap.size (.slice a1 len1 cap1) len1 T Y Z := by
    obtain ⟨fuel, hf⟩ := h1
    exact open_chs hf
  have opened : ∀ {a : Option Addr} {len cap : Nat} {d : DataW H} {p : List MemPlace} {fuel : Nat}, DataW.trod enc Try.prog W 0 (fun _ => true) true fuel 26 [.slice a len cap] = some (d, p) → ∃ z, len ≤ maxLen ∧ IsBy W 0 W.heap.size (.slice a len cap) len z := by
    intro a len cap d p fuel hf
    obtain ⟨_, _, _, z, e, hl, hb⟩ := open_by hf
    cases e
    exact ⟨z, hl, hb⟩
  obtain ⟨zt, hlt, hT⟩ : ∃ z, len2 ≤ maxLen ∧ IsBy W 0 W.heap.size (.slice a2 len2 cap2) len2 z := by
    obtain ⟨fuel, hf⟩ := h2
    exact opened hf
  obtain ⟨zs, hls, hS⟩ : ∃ z, len3 ≤ maxLen ∧ IsBy W 0 W.heap.size (.slice a3 len3 cap3) len3 z := by
    obtain ⟨fuel, hf⟩ := h3
    exact opened hf
  clear hA0 hval0
  refine (main_walk len1 cap1 len2 cap2 len3 cap3 a1 a2 a3 a0 a4 a5 T Y Z zt zs W hn hlt hls hm hC hT hS).mono fun e W' ⟨he, bel⟩ => ?_
  subst he
  exact ⟨_, rfl, _, _, _, [], _, [], hW', trodAll_mk1 (shut_bool Try.underlying4 _), (trodAll_cons_mk (shut_int Try.underlying3 w0) (trodAll_cons_mk (Below.trod laidOut (by kernel_rfl) (of_decide_eq_true (by kernel_rfl)) k1 bel lt1) (trodAll_cons_mk (Below.trod laidOut (by kernel_rfl) (of_decide_eq_true (by kernel_rfl)) k2 bel lt2) (trodAll_cons_mk (Below.trod laidOut (by kernel_rfl) (of_decide_eq_true (by kernel_rfl)) k3 bel lt3) (trodAll_cons_mk (shut_int Try.underlying3 w4) (trodAll_cons_mk (shut_int Try.underlying3 w5) trodAll_mk0)))))), rfl, bel.frame _, fun h => by cases h⟩

theorem over : Rows.fnRowBufferSealMatchesModelRow.holds Try.pinned (OpenSpec.ofChange Rows.fnRowBufferSealMatchesModelSpec) :=
  OpenClaim.holds_of_wide 5 Try.f5 rfl rfl rfl rfl rfl rfl rfl ⟨rfl, rfl, rfl, rfl, rfl⟩ rfl rfl rfl rfl rfl (by kernel_rfl) Try.func5 (by kernel_rfl)
    (of_decide_eq_true (by kernel_rfl)) (by unfold Func.isWrapper; first | (rw [if_pos (by decide +kernel)]; kernel_rfl) | (rw [if_neg (by decide +kernel)]; exact ⟨rfl, rfl⟩))
    (fun os started H enc _ => lifted os started H enc)

/-- THE STATEMENT -/
theorem proved : Rows.FnRowBufferSealMatchesModelSaid := over
end fnRowBufferSealMatchesModel
end Go.Proofs.Qxb6602660a
