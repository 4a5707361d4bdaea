import Derived.Test.Qxb6600507aLower
import Derived.ProofKit
import Derived.OpenShut
import Derived.ShutString
import Derived.ChangeOld
import Derived.Below
import Derived.Deep.QuietTactic
import Derived.BigQuiet
namespace Go.Proofs.Qxb6600507a
open Go.RowKit

theorem upper_get : ∀ (k : Nat) (h : k < 26), ((⟨#[65, 66, 67, 68, 69, 70, 71, 72, 73, 74, 75, 76, 77, 78, 79, 80, 81, 82, 83, 84, 85, 86, 87, 88, 89, 90]⟩ : ByteArray)[k]'(h)).toNat = 65 + k := by decide +kernel
theorem lower_get : ∀ (k : Nat) (h : k < 26), ((⟨#[97, 98, 99, 100, 101, 102, 103, 104, 105, 106, 107, 108, 109, 110, 111, 112, 113, 114, 115, 116, 117, 118, 119, 120, 121, 122]⟩ : ByteArray)[k]'(h)).toNat = 97 + k := by decide +kernel

theorem upper_yes {c : UInt8} {k : Nat} (hk : k < 26) (h : ((((⟨#[65, 66, 67, 68, 69, 70, 71, 72, 73, 74, 75, 76, 77, 78, 79, 80, 81, 82, 83, 84, 85, 86, 87, 88, 89, 90]⟩ : ByteArray)[k]'(hk)).toNat : Int) == (c.toNat : Int)) = true) : c.toNat = 65 + k := by
  rw [upper_get k hk, beq_iff_eq] at h; omega
theorem upper_no {c : UInt8} {k : Nat} (hk : k < 26) (h : ((((⟨#[65, 66, 67, 68, 69, 70, 71, 72, 73, 74, 75, 76, 77, 78, 79, 80, 81, 82, 83, 84, 85, 86, 87, 88, 89, 90]⟩ : ByteArray)[k]'(hk)).toNat : Int) == (c.toNat : Int)) = false) : c.toNat ≠ 65 + k := by
  rw [upper_get k hk, beq_eq_false_iff_ne] at h; omega

theorem low_hit {c : UInt8} {k : Nat} (hk : k < 26) (h : c.toNat = 65 + k) : (Pl.low c).toNat = 97 + k := by
  rw [Pl.low_toNat]; unfold Pl.lowN; rw [if_pos (by omega)]; omega

theorem low_miss {c : UInt8} (h : ∀ j, j < 26 → c.toNat ≠ 65 + j) : Pl.low c = c := by
  unfold Pl.low
  rw [if_neg]
  rintro ⟨h1, h2⟩
  exact h (c.toNat - 65) (by omega) (by omega)

theorem ret_int {k : IntKind} {a b : Int} (h : a = b) : Ending.returned (.int k a) = .returned (.int k b) := by rw [h]

set_option maxHeartbeats 400000 in
theorem table_any (c : UInt8) (w : World) :
    Calls Try.prog 10 #[.int .u8 (c.toNat : Int)] w fun e w' => e = .returned (.int .u8 ((Pl.low c).toNat : Int)) ∧ w' = w := by
  go_enter Try.func10, Try.ntmps10
  go_wp2
  go_loop [3] (fun i => ∃ k : Nat, k ≤ 26 ∧ i = .int .i64 k ∧ Hid (∀ j, j < k → c.toNat ≠ 65 + j)) (fun i => 26 - (intOf i).toNat)
  case atStart => exact ⟨0, Nat.zero_le _, rfl, fun j hj => absurd hj (by omega)⟩
  case round =>
    obtain ⟨k, hk, rfl, hno⟩ := hrel
    by_cases hlt : k < 26
    · go_wp2
      · have h := upper_yes (c := c) hlt (by assumption)
        go_ret
        exact ⟨ret_int (by rw [lower_get k hlt, low_hit hlt (by omega)]), rfl⟩
      · have h := upper_no (c := c) hlt (by assumption)
        go_round
        case rel => exact ⟨k + 1, by omega, by go_num, fun j hj => by
          by_cases e : j = k
          · subst e; omega
          · exact hno.out j (by omega)⟩
        case measure => simp [intOf]; omega
    · obtain rfl : k = 26 := by omega
      go_wp2
      go_ret
      exact ⟨ret_int (by rw [low_miss hno.out]), rfl⟩

theorem lowS_size (s : ByteArray) : (⟨(Pl.lowL s.data.toList).toArray⟩ : ByteArray).size = s.size := by
  show (Pl.lowL s.data.toList).toArray.size = s.data.size
  simp [Pl.lowL]

theorem lowS_at (s g : ByteArray) (hg : g = ⟨(Pl.lowL s.data.toList).toArray⟩) (k : Nat) (h : k < s.size) (h' : k < g.size) : g[k] = Pl.low s[k] := by
  subst hg
  show (Pl.lowL s.data.toList).toArray[k]'h' = Pl.low (s.data[k]'h)
  simp [Pl.lowL]

set_option maxHeartbeats 800000 in
theorem match_walk (a0 : ByteArray) (w0 : a0.size ≤ maxLen) (w : World) :
    Calls Try.prog 3 #[.string a0] w fun e w' => e = .returned (.bool true) ∧ Below w.heap.size w w' := by
  have w0' := w0
  unfold maxLen at w0
  by_cases hb : a0.size ≤ 1048576
  · have hb' : (a0.size : Int) ≤ 1048576 := by omega
    go_enter Try.func3, Try.ntmps3
    go_wp2_with (go_at_call 8; go_in)
    refine (lower_any _ _ w0').mono ?_
    rintro e w1 ⟨rfl, hbel⟩
    obtain ⟨g, hg⟩ : ∃ g : ByteArray, g = ⟨(Pl.lowL a0.data.toList).toArray⟩ := ⟨_, rfl⟩
    rw [← hg]
    have HG : Hid (g = ⟨(Pl.lowL a0.data.toList).toArray⟩) := hg
    have HB : Hid (Below w.heap.size w w1) := hbel
    have hgs : g.size = a0.size := by rw [hg]; exact lowS_size a0
    clear hg hbel
    go_wp2
    go_loopw [4] (fun i wr => ∃ k : Nat, k ≤ a0.size ∧ i = .int .i64 k ∧ Hid (Below w.heap.size w wr)) (fun i _ => a0.size - (intOf i).toNat)
    case atStart => exact ⟨0, Nat.zero_le _, rfl, HB⟩
    case round =>
      obtain ⟨k, hk, rfl, hbr⟩ := hrel
      by_cases hlt : k < a0.size
      · have hlg : k < g.size := by omega
        have hne : ((g[k].toNat : Int) != ((Pl.low a0[k]).toNat : Int)) = false := by rw [lowS_at a0 g HG.out k hlt hlg]; simp
        have i1 : (0 : Int) ≤ (k : Int) := by omega
        have i2 : (k : Int) < (a0.size : Int) := by omega
        go_wp2_with fail
        go_quiet ((go_at_call 10; exact Calls.quiet_of_same (table_any _ _)))
        go_wp2
        go_roundw
        case rel => exact ⟨k + 1, by omega, by go_num, below_drewN hbr.out nq⟩
        case measure => simp [intOf]; omega
      · go_wp2
        go_ret
        exact ⟨rfl, hbr.out⟩
  · have hb' : 1048576 < (a0.size : Int) := by omega
    go_enter Try.func3, Try.ntmps3
    go_wp2
    go_ret
    exact ⟨rfl, Below.refl _ _⟩

open Go.ChangeShapes Go.WideShapes Go.ChangeAt
open Go.ChangeMaps (open_string shut_string)

theorem own : ownKnob Try.prog.godebug = none := by kernel_rfl
theorem laidOut : laidOutB Try.prog = true := by kernel_rfl

namespace fnLowerASCIIMatchesAlphabetTable
set_option linter.unusedVariables false

set_option maxRecDepth 100000 in
theorem lifted (os : Os) (started : os.Started) (H : Type) (enc : TypeId × Value → H) :
    ReturnsInHanded {} Try.checked os 3 .any (Rows.fnLowerASCIIMatchesAlphabetTableSpec.pre6 enc Try.prog Try.f3 Rows.fnLowerASCIIMatchesAlphabetTableRow.domain false) (Rows.fnLowerASCIIMatchesAlphabetTableSpec.post enc Try.prog Try.f3 false true false false) := by
  refine returnsInHanded_of_change (C := Try.checked) own started (by kernel_rfl) Try.func3
    (ChangeSpec.witness6 (enc := enc) (C := Try.checked) false ⟨#[], #[.string ByteArray.empty], []⟩ 8 (by kernel_rfl) (by kernel_rfl) (by kernel_rfl) (by kernel_rfl)) ?_
  intro W base args ds gs before hval0 hW hcnd _
  have hval : ∀ (j : Nat) t v, Try.f3.params[j]? = some t → args[j]? = some v → Value.okWide Try.prog W .any base t v := hval0
  have hW' := hW
  obtain ⟨p, q, hA0, hV, rfl, hfz, hnd⟩ := hW
  have hA : DataW.TrodAll enc Try.prog W 0 (fun _ => true) true Try.f3.params.toList args.toList ds p := hA0
  rw [Try.params3] at hA hval
  obtain ⟨v0, vs0, d0, ds0, p0, q0, hargs, rfl, rfl, h0, r0⟩ := trodAll_cons hA
  obtain ⟨rfl, rfl, rfl⟩ := trodAll_nil r0
  obtain rfl : args = #[v0] := by cases args; simp_all
  obtain ⟨rfl, rfl⟩ := trodVars_none hV
  obtain ⟨a0, rfl, rfl, rfl, w0⟩ := open_string Try.underlying9 (hval 0 9 v0 rfl rfl) h0
  clear hA0 hval0
  refine (match_walk a0 w0 W).mono fun e W' ⟨he, bel⟩ => ?_
  subst he
  exact ⟨_, rfl, _, _, _, [], _, [], hW', trodAll_mk1 (shut_bool Try.underlying4 _), (trodAll_cons_mk (shut_string Try.underlying9 w0) trodAll_mk0), rfl, bel.frame _, fun h => by cases h⟩

theorem over : Rows.fnLowerASCIIMatchesAlphabetTableRow.holds Try.pinned (OpenSpec.ofChange Rows.fnLowerASCIIMatchesAlphabetTableSpec) :=
  OpenClaim.holds_of_wide 3 Try.f3 rfl rfl rfl rfl rfl rfl rfl ⟨rfl, rfl, rfl, rfl, rfl⟩ rfl rfl rfl rfl rfl (by kernel_rfl) Try.func3 (by kernel_rfl)
    (of_decide_eq_true (by kernel_rfl)) (by unfold Func.isWrapper; first | (rw [if_pos (by decide +kernel)]; kernel_rfl) | (rw [if_neg (by decide +kernel)]; exact ⟨rfl, rfl⟩))
    (fun os started H enc _ => lifted os started H enc)

/-- THE STATEMENT -/
theorem proved : Rows.FnLowerASCIIMatchesAlphabetTableSaid := over
end fnLowerASCIIMatchesAlphabetTable
end Go.Proofs.Qxb6600507a
