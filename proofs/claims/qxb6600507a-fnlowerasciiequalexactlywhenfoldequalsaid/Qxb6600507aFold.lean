import Derived.Test.Qxb6600507aLower
import Derived.ProofKit
import Derived.OpenShut
import Derived.ShutString
import Derived.ChangeOld
import Derived.Below
namespace Go.Proofs.Qxb6600507a
open Go.RowKit

theorem or_byte (c : UInt8) : bits .or .u8 (c.toNat : Int) 32 = ((c.toNat ||| 32 : Nat) : Int) :=
  u8_or_nat c.toNat 32 c.toNat_lt (by decide)

theorem ret_bool {a b : Bool} (h : a = b) : Ending.returned (.bool a) = .returned (.bool b) := by rw [h]

theorem foldB_same {x y : UInt8} (h : x.toNat = y.toNat) : Pl.foldB x y = true := by simp [Pl.foldB, h]
theorem foldB_yes {x y : UInt8} (h : (x.toNat ||| 32) = (y.toNat ||| 32)) (h1 : 97 ≤ (x.toNat ||| 32)) (h2 : (x.toNat ||| 32) ≤ 122) : Pl.foldB x y = true := by
  unfold Pl.foldB; rw [h] at h1 h2 ⊢; simp [h1, h2]
theorem foldB_no1 {x y : UInt8} (h0 : x.toNat ≠ y.toNat) (h : (x.toNat ||| 32) ≠ (y.toNat ||| 32)) : Pl.foldB x y = false := by simp [Pl.foldB, h0, h]
theorem foldB_no2 {x y : UInt8} (h0 : x.toNat ≠ y.toNat) (h : (x.toNat ||| 32) < 97 ∨ 122 < (x.toNat ||| 32)) : Pl.foldB x y = false := by
  simp only [Pl.foldB, Bool.or_eq_false_iff, beq_eq_false_iff_ne, ne_eq, h0, not_false_eq_true, true_and, Bool.and_eq_false_iff, decide_eq_false_iff_not]
  omega

theorem fold_len (a b : ByteArray) (h : ¬ a.size = b.size) : Pl.foldL a.data.toList b.data.toList = false :=
  Pl.foldL_of_ne _ _ (by simpa using h)

theorem fold_bad (a b : ByteArray) (k : Nat) (h1 : k < a.size) (h2 : k < b.size) (h : Pl.foldB a[k] b[k] = false) : Pl.foldL a.data.toList b.data.toList = false :=
  Pl.foldL_of_bad _ _ k (by simpa using h1) (by simpa using h2) (by simp only [Array.getElem_toList]; exact h)

theorem fold_all (a b : ByteArray) (hs : a.size = b.size) (h : ∀ k (h1 : k < a.size) (h2 : k < b.size), Pl.foldB a[k] b[k] = true) : Pl.foldL a.data.toList b.data.toList = true :=
  Pl.foldL_of_all _ _ (by simpa using hs) (fun i h1 h2 => by simp only [Array.getElem_toList]; exact h i (by simpa using h1) (by simpa using h2))

set_option maxHeartbeats 400000 in
theorem fold_any (a b : ByteArray) (w : World) (_ha : a.size ≤ maxLen) :
    Calls Try.prog 13 #[.string a, .string b] w fun e w' => e = .returned (.bool (Pl.foldL a.data.toList b.data.toList)) ∧ w' = w := by
  unfold maxLen at _ha
  by_cases hsz : a.size = b.size
  · have hq : ((a.size : Int) != (b.size : Int)) = false := by simp [hsz]
    have hle : a.size ≤ b.size := by omega
    have HS : Hid (a.size = b.size) := hsz
    clear hsz
    go_enter Try.func13, Try.ntmps13
    go_wp2
    go_loop [5] (fun i => ∃ k : Nat, k ≤ a.size ∧ i = .int .i64 k ∧ Hid (∀ j (h1 : j < a.size) (h2 : j < b.size), j < k → Pl.foldB a[j] b[j] = true)) (fun i => a.size - (intOf i).toNat)
    case atStart => exact ⟨0, Nat.zero_le _, rfl, fun j _ _ hj => absurd hj (by omega)⟩
    case round =>
      obtain ⟨k, hk, rfl, hall⟩ := hrel
      by_cases hlt : k < a.size
      · have hlb : k < b.size := by omega
        have hx := or_byte a[k]
        have hy := or_byte b[k]
        obtain ⟨X, hX0⟩ : ∃ X, X = (a[k].toNat ||| 32) := ⟨_, rfl⟩
        have HX : Hid (X = (a[k].toNat ||| 32)) := hX0
        clear hX0
        obtain ⟨Y, hY0⟩ : ∃ Y, Y = (b[k].toNat ||| 32) := ⟨_, rfl⟩
        have HY : Hid (Y = (b[k].toNat ||| 32)) := hY0
        clear hY0
        rw [← HX.out] at hx
        rw [← HY.out] at hy
        have step : Pl.foldB a[k] b[k] = true → ∀ j (h1 : j < a.size) (h2 : j < b.size), j < k + 1 → Pl.foldB a[j] b[j] = true := by
          intro h j h1 h2 hj
          by_cases e : j = k
          · subst e; exact h
          · exact hall.out j h1 h2 (by omega)
        have ST := (show Hid _ from step)
        clear step
        by_cases h0 : a[k].toNat = b[k].toNat
        · have t1 : ((a[k].toNat : Int) == (b[k].toNat : Int)) = true := by simp [h0]
          have R := (show Hid _ from ST.out (foldB_same h0))
          clear h0
          go_wp2
          go_round
          case rel => exact ⟨k + 1, by omega, by go_num, R⟩
          case measure => simp [intOf]; omega
        · have t1 : ((a[k].toNat : Int) == (b[k].toNat : Int)) = false := by simp; omega
          have H0 : Hid (¬ a[k].toNat = b[k].toNat) := h0
          clear h0
          by_cases h1 : X = Y
          · have t2 : ((X : Int) != (Y : Int)) = false := by simp [h1]
            have H1 : Hid (X = Y) := h1
            clear h1
            by_cases h2 : 97 ≤ X
            · by_cases h3 : X ≤ 122
              · have R := (show Hid _ from ST.out (foldB_yes (by rw [← HX.out, ← HY.out]; exact H1.out) (by rw [← HX.out]; exact h2) (by rw [← HX.out]; exact h3)))
                go_wp2
                go_round
                case rel => exact ⟨k + 1, by omega, by go_num, R⟩
                case measure => simp [intOf]; omega
              · have R := (show Hid _ from fold_bad a b k hlt hlb (foldB_no2 H0.out (by rw [← HX.out]; omega)))
                go_wp2
                go_ret
                exact ⟨ret_bool R.out.symm, rfl⟩
            · have R := (show Hid _ from fold_bad a b k hlt hlb (foldB_no2 H0.out (by rw [← HX.out]; omega)))
              go_wp2
              go_ret
              exact ⟨ret_bool R.out.symm, rfl⟩
          · have t2 : ((X : Int) != (Y : Int)) = true := by simp; omega
            have R := (show Hid _ from fold_bad a b k hlt hlb (foldB_no1 H0.out (by rw [← HX.out, ← HY.out]; exact h1)))
            clear h1
            go_wp2
            go_ret
            exact ⟨ret_bool R.out.symm, rfl⟩
      · have R := (show Hid _ from fold_all a b HS.out (fun j h1 h2 => hall.out j h1 h2 (by omega)))
        go_wp2
        go_ret
        exact ⟨ret_bool R.out.symm, rfl⟩
  · have hq : ((a.size : Int) != (b.size : Int)) = true := by simp; omega
    have R := (show Hid _ from fold_len a b hsz)
    clear hsz
    go_enter Try.func13, Try.ntmps13
    go_wp2
    go_ret
    exact ⟨ret_bool R.out.symm, rfl⟩

theorem same_fold (a b g h : ByteArray) (hg : g = ⟨(Pl.lowL a.data.toList).toArray⟩) (hh : h = ⟨(Pl.lowL b.data.toList).toArray⟩) :
    ((g.toList == h.toList) == Pl.foldL a.data.toList b.data.toList) = true := by
  subst hg hh
  rw [ByteArray.toList_eq, ByteArray.toList_eq]
  have := Pl.lowL_iff a.data.toList b.data.toList
  rw [beq_iff_eq, Bool.eq_iff_iff, beq_iff_eq]
  exact this

set_option maxHeartbeats 800000 in
theorem fold_walk (a0 a1 : ByteArray) (w0 : a0.size ≤ maxLen) (w1 : a1.size ≤ maxLen) (w : World) :
    Calls Try.prog 5 #[.string a0, .string a1] w fun e w' => e = .returned (.bool true) ∧ Below w.heap.size w w' := by
  have w0' := w0
  have w1' := w1
  unfold maxLen at w0 w1
  by_cases ha : (a0.size : Int) ≤ 1048576
  · by_cases hb : (a1.size : Int) ≤ 1048576
    · by_cases hab : (a0.size : Int) + (a1.size : Int) ≤ 1048576
      · go_enter Try.func5, Try.ntmps5
        go_wp2_with (go_at_call 12; go_in)
        refine (lower_any _ _ w0').mono ?_
        rintro e wA ⟨rfl, hA⟩
        obtain ⟨g0, hg0⟩ : ∃ g : ByteArray, g = ⟨(Pl.lowL a0.data.toList).toArray⟩ := ⟨_, rfl⟩
        rw [← hg0]
        have HG0 : Hid (g0 = ⟨(Pl.lowL a0.data.toList).toArray⟩) := hg0
        have HA : Hid (Below w.heap.size w wA) := hA
        clear hg0 hA
        go_wp2_with fail
        refine (lower_any _ _ w1').mono ?_
        rintro e wB ⟨rfl, hB⟩
        obtain ⟨g1, hg1⟩ : ∃ g : ByteArray, g = ⟨(Pl.lowL a1.data.toList).toArray⟩ := ⟨_, rfl⟩
        rw [← hg1]
        have HG1 : Hid (g1 = ⟨(Pl.lowL a1.data.toList).toArray⟩) := hg1
        have HB : Hid (Below w.heap.size w wB) := HA.out.trans (hB.mono HA.out.size)
        clear hg1 hB
        go_wp2_with fail
        refine (fold_any _ _ _ w0').mono ?_
        rintro e wC ⟨rfl, rfl⟩
        go_wp2
        go_ret
        exact ⟨ret_bool (same_fold a0 a1 g0 g1 HG0.out HG1.out), HB.out⟩
      · go_enter Try.func5, Try.ntmps5
        go_wp2
        go_ret
        exact ⟨rfl, Below.refl _ _⟩
    · go_enter Try.func5, Try.ntmps5
      go_wp2
      go_ret
      exact ⟨rfl, Below.refl _ _⟩
  · go_enter Try.func5, Try.ntmps5
    go_wp2
    go_ret
    exact ⟨rfl, Below.refl _ _⟩

open Go.ChangeShapes Go.WideShapes Go.ChangeAt
open Go.ChangeMaps (open_string shut_string)

namespace fnLowerASCIIEqualExactlyWhenFoldEqual
set_option linter.unusedVariables false

theorem own : ownKnob Try.prog.godebug = none := by kernel_rfl

set_option maxRecDepth 100000 in
theorem lifted (os : Os) (started : os.Started) (H : Type) (enc : TypeId × Value → H) :
    ReturnsInHanded {} Try.checked os 5 .any (Rows.fnLowerASCIIEqualExactlyWhenFoldEqualSpec.pre6 enc Try.prog Try.f5 Rows.fnLowerASCIIEqualExactlyWhenFoldEqualRow.domain false) (Rows.fnLowerASCIIEqualExactlyWhenFoldEqualSpec.post enc Try.prog Try.f5 false true false false) := by
  refine returnsInHanded_of_change (C := Try.checked) own started (by kernel_rfl) Try.func5
    (ChangeSpec.witness6 (enc := enc) (C := Try.checked) false ⟨#[], #[.string ByteArray.empty, .string ByteArray.empty], []⟩ 8 (by kernel_rfl) (by kernel_rfl) (by kernel_rfl) (by kernel_rfl)) ?_
  intro W base args ds gs before hval0 hW hcnd _
  have hval : ∀ (j : Nat) t v, Try.f5.params[j]? = some t → args[j]? = some v → Value.okWide Try.prog W .any base t v := hval0
  have hW' := hW
  obtain ⟨p, q, hA0, hV, rfl, hfz, hnd⟩ := hW
  have hA : DataW.TrodAll enc Try.prog W 0 (fun _ => true) true Try.f5.params.toList args.toList ds p := hA0
  rw [Try.params5] at hA hval
  obtain ⟨v0, vs0, d0, ds0, p0, q0, hargs, rfl, rfl, h0, r0⟩ := trodAll_cons hA
  obtain ⟨v1, vs1, d1, ds1, p1, q1, rfl, rfl, rfl, h1, r1⟩ := trodAll_cons r0
  obtain ⟨rfl, rfl, rfl⟩ := trodAll_nil r1
  obtain rfl : args = #[v0, v1] := by cases args; simp_all
  obtain ⟨rfl, rfl⟩ := trodVars_none hV
  obtain ⟨a0, rfl, rfl, rfl, w0⟩ := open_string Try.underlying9 (hval 0 9 v0 rfl rfl) h0
  obtain ⟨a1, rfl, rfl, rfl, w1⟩ := open_string Try.underlying9 (hval 1 9 v1 rfl rfl) h1
  clear hA0 hval0
  refine (fold_walk a0 a1 w0 w1 W).mono fun e W' ⟨he, bel⟩ => ?_
  subst he
  exact ⟨_, rfl, _, _, _, [], _, [], hW', trodAll_mk1 (shut_bool Try.underlying4 _), (trodAll_cons_mk (shut_string Try.underlying9 w0) (trodAll_cons_mk (shut_string Try.underlying9 w1) trodAll_mk0)), rfl, bel.frame _, fun h => by cases h⟩

theorem over : Rows.fnLowerASCIIEqualExactlyWhenFoldEqualRow.holds Try.pinned (OpenSpec.ofChange Rows.fnLowerASCIIEqualExactlyWhenFoldEqualSpec) :=
  OpenClaim.holds_of_wide 5 Try.f5 rfl rfl rfl rfl rfl rfl rfl ⟨rfl, rfl, rfl, rfl, rfl⟩ rfl rfl rfl rfl rfl (by kernel_rfl) Try.func5 (by kernel_rfl)
    (of_decide_eq_true (by kernel_rfl)) (by unfold Func.isWrapper; first | (rw [if_pos (by decide +kernel)]; kernel_rfl) | (rw [if_neg (by decide +kernel)]; exact ⟨rfl, rfl⟩))
    (fun os started H enc _ => lifted os started H enc)

/-- THE STATEMENT -/
theorem proved : Rows.FnLowerASCIIEqualExactlyWhenFoldEqualSaid := over
end fnLowerASCIIEqualExactlyWhenFoldEqual
end Go.Proofs.Qxb6600507a
