/-
  'Rows.FnNextHopFullRingLargestPowerOfTwoSaid' proved: the walk over the contracts of fullTable, NextHop, clockwise, ringBits, the frame by the seat's shell.
-/
import Derived.Test.Qxb6603701aFull
import Derived.WalkKit
import Derived.ProofKit
import Derived.OpenShut
import Derived.ShutString
namespace Go.Proofs.Qxb6603701a.fnNextHopFullRingLargestPowerOfTwo
open Go.ChangeShapes Go.WideShapes Go.ChangeAt Go.RowKit
open Go.ChangeMaps (open_string shut_string)
set_option linter.unusedVariables false      -- a walk need not use every 'w<i>' (that an integer argument fits its kind)

theorem own : ownKnob Try.prog.godebug = none := by kernel_rfl

/-! ### STEP 1: THE WALK -/
set_option maxHeartbeats 400000 in
/-- An id that is none: true by the guard. -/
theorem walk_out (a0 a1 : Int) (h : a0 < 0 ∨ 128 ≤ a0 ∨ a1 < 0 ∨ 128 ≤ a1) (w : World) :
    Calls Try.prog 6 #[.int .i32 a0, .int .i32 a1] w fun e w' => e = .returned (.bool true) ∧ Below w.heap.size w w' := by
  by_cases h1 : a0 < 0
  · go_enter Try.func6, Try.ntmps6
    go_wp2
    go_ret
    exact ⟨rfl, Below.refl _ _⟩
  by_cases h2 : 128 ≤ a0
  · go_enter Try.func6, Try.ntmps6
    go_wp2
    go_ret
    exact ⟨rfl, Below.refl _ _⟩
  by_cases h3 : a1 < 0
  · go_enter Try.func6, Try.ntmps6
    go_wp2
    go_ret
    exact ⟨rfl, Below.refl _ _⟩
  have h4 : 128 ≤ a1 := by omega
  go_enter Try.func6, Try.ntmps6
  go_wp2
  go_ret
  exact ⟨rfl, Below.refl _ _⟩

theorem nextHop_full (a0 a1 : Int) (B : Nat) (w : World) (hc : ∀ i, i < 7 → w.cell? ⟨B, i, none⟩ = some (.int .i32 ((fullL a0).getD i 0))) (x : Int) (z : Bool) (R : hop a0 a1 (fullL a0) = (x, z)) :
    Calls Try.prog 12 #[.int .i32 a0, .int .i32 a1, .slice (some ⟨B, 0, none⟩) 7 7] w fun e w' => e = .returned (.tuple #[.int .i32 x, .bool z]) ∧ w' = w := by
  have N := nextHop_row a0 a1 B 7 7 (fullL a0) rfl (by omega) w hc
  rw [R] at N
  exact N

set_option maxHeartbeats 400000 in
/-- The node itself. -/
theorem walk_self (a0 : Int) (h1 : 0 ≤ a0) (h2 : a0 < 128) (w : World) :
    Calls Try.prog 6 #[.int .i32 a0, .int .i32 a0] w fun e w' => e = .returned (.bool true) ∧ Below w.heap.size w w' := by
  have R : Hid _ := hop_self a0
  go_enter Try.func6, Try.ntmps6
  go_wp2_with (first
    | (go_at_call 14; refine (ringBits_any _).mono ?_; rintro e w' ⟨rfl, hw⟩; obtain rfl := hw.symm)
    | (go_at_call 15; refine (fullTable_any a0 h1 h2 _).mono ?_; rintro e w1 ⟨B, rfl, hc, hbel⟩; have HC : Hid _ := hc; clear hc)
    | (go_at_call 12; refine (nextHop_full _ _ _ _ HC.out _ _ R.out).mono ?_; rintro e w' ⟨rfl, hw⟩; obtain rfl := hw.symm))
  go_ret
  exact ⟨rfl, hbel⟩

set_option maxRecDepth 4000 in
set_option maxHeartbeats 400000 in
/-- Another. -/
theorem walk_other (a0 a1 : Int) (h1 : 0 ≤ a0) (h2 : a0 < 128) (h3 : 0 ≤ a1) (h4 : a1 < 128) (hne : a0 ≠ a1) (w : World) :
    Calls Try.prog 6 #[.int .i32 a0, .int .i32 a1] w fun e w' => e = .returned (.bool true) ∧ Below w.heap.size w w' := by
  obtain ⟨j, hj, p1, p2⟩ := full_cases (d := (a1 - a0) % 128) (by omega) (by omega)
  have R : Hid _ := hop_full a0 a1 h3 h4 j hj p1 p2
  have hb : (a0 == a1) = false := by simpa using hne
  clear hne
  have q1 := pw2_pos j
  have q2 : pw2 j ≤ 64 := pw2_mono (a := j) (b := 6) hj
  have n1 : 0 ≤ (a0 + pw2 j) % 128 := Int.emod_nonneg _ (by omega)
  have n2 : (a0 + pw2 j) % 128 < 128 := Int.emod_lt_of_pos _ (by omega)
  have d1 : 0 ≤ (a1 - a0) % 128 := Int.emod_nonneg _ (by omega)
  have d2 : (a1 - a0) % 128 < 128 := Int.emod_lt_of_pos _ (by omega)
  go_enter Try.func6, Try.ntmps6
  go_wp2_with (first
    | (go_at_call 14; refine (ringBits_any _).mono ?_; rintro e w' ⟨rfl, hw⟩; obtain rfl := hw.symm)
    | (go_at_call 15; refine (fullTable_any a0 h1 h2 _).mono ?_; rintro e w1 ⟨B, rfl, hc, hbel⟩; have HC : Hid _ := hc; clear hc)
    | (go_at_call 12; refine (nextHop_full _ _ _ _ HC.out _ _ R.out).mono ?_; rintro e w' ⟨rfl, hw⟩; obtain rfl := hw.symm)
    | (go_at_call 13; refine (clockwise_any _ _ (by omega) (by omega) (by omega) (by omega) _).mono ?_; rintro e w' ⟨rfl, hw⟩; obtain rfl := hw.symm))
  go_loop [10] (fun p => ∃ i : Nat, i ≤ j ∧ p = .int .i64 (pw2 i)) (fun p => 128 - (intOf p).toNat)
  case atStart => exact ⟨0, Nat.zero_le _, rfl⟩
  case round =>
    obtain ⟨i, hi, rfl⟩ := hrel
    have i1 := pw2_pos i
    by_cases hij : i < j
    · have i2 : pw2 (i + 1) ≤ pw2 j := pw2_mono hij
      have S : Hid (pw2 (i + 1) = pw2 i * 2) := pw2_succ i
      rw [pw2_succ] at i2
      go_wp2
      go_round
      case rel => exact ⟨i + 1, hij, by rw [S.out]⟩
      case measure => simp [intOf]; omega
    · obtain rfl : i = j := by omega
      go_wp2
      go_ret
      exact ⟨rfl, hbel⟩

theorem walk (a0 : Int) (a1 : Int) (w0 : (Lit.int .i32 a0).wf = true) (w1 : (Lit.int .i32 a1).wf = true) (w : World) :
    Calls Try.prog 6 #[.int .i32 a0, .int .i32 a1] w fun e w' => e = .returned (.bool true) ∧ Below w.heap.size w w' := by
  by_cases h : a0 < 0 ∨ 128 ≤ a0 ∨ a1 < 0 ∨ 128 ≤ a1
  · exact walk_out a0 a1 h w
  by_cases he : a0 = a1
  · subst he
    exact walk_self a0 (by omega) (by omega) w
  · exact walk_other a0 a1 (by omega) (by omega) (by omega) (by omega) he w

/-! ### THE ROW's STEP: WRITTEN OUT: LEAVE IT -/
set_option maxRecDepth 100000 in
theorem lifted (os : Os) (started : os.Started) (H : Type) (enc : TypeId × Value → H) :
    ReturnsInHanded {} Try.checked os 6 .any (Rows.fnNextHopFullRingLargestPowerOfTwoSpec.pre6 enc Try.prog Try.f6 Rows.fnNextHopFullRingLargestPowerOfTwoRow.domain false) (Rows.fnNextHopFullRingLargestPowerOfTwoSpec.post enc Try.prog Try.f6 false true false false) := by
  refine returnsInHanded_of_change (C := Try.checked) own started (by kernel_rfl) Try.func6
    (ChangeSpec.witness6 (enc := enc) (C := Try.checked) false ⟨#[], #[.int .i32 0, .int .i32 0], []⟩ 8 (by kernel_rfl) (by kernel_rfl) (by kernel_rfl) (by kernel_rfl)) ?_
  intro W base args ds gs before hval0 hW hcnd _
  have hval : ∀ (j : Nat) t v, Try.f6.params[j]? = some t → args[j]? = some v → Value.okWide Try.prog W .any base t v := hval0
  have hW' := hW
  obtain ⟨p, q, hA0, hV, rfl, hfz, hnd⟩ := hW
  have hA : DataW.TrodAll enc Try.prog W 0 (fun _ => true) true Try.f6.params.toList args.toList ds p := hA0
  rw [Try.params6] at hA hval
  obtain ⟨v0, vs0, d0, ds0, p0, q0, hargs, rfl, rfl, h0, r0⟩ := trodAll_cons hA
  obtain ⟨v1, vs1, d1, ds1, p1, q1, rfl, rfl, rfl, h1, r1⟩ := trodAll_cons r0
  obtain ⟨rfl, rfl, rfl⟩ := trodAll_nil r1
  obtain rfl : args = #[v0, v1] := by cases args; simp_all
  obtain ⟨rfl, rfl⟩ := trodVars_none hV
  obtain ⟨a0, rfl, rfl, rfl, w0⟩ := open_int Try.underlying21 (hval 0 21 v0 rfl rfl) h0
  obtain ⟨a1, rfl, rfl, rfl, w1⟩ := open_int Try.underlying21 (hval 1 21 v1 rfl rfl) h1
  clear hA0 hval0
  simp only [List.append_nil] at hW'
  refine (walk a0 a1 w0 w1 W).mono fun e W' ⟨he, hg⟩ => ?_
  subst he
  exact ⟨_, rfl, _, _, _, [], _, [], hW', trodAll_mk1 (shut_bool Try.underlying4 _), (trodAll_cons_mk (shut_int Try.underlying21 w0) (trodAll_cons_mk (shut_int Try.underlying21 w1) trodAll_mk0)), rfl, hg.frame _, fun h => by cases h⟩

theorem over : Rows.fnNextHopFullRingLargestPowerOfTwoRow.holds Try.pinned (OpenSpec.ofChange Rows.fnNextHopFullRingLargestPowerOfTwoSpec) :=
  OpenClaim.holds_of_wide 6 Try.f6 rfl rfl rfl rfl rfl rfl rfl ⟨rfl, rfl, rfl, rfl, rfl⟩ rfl rfl rfl rfl rfl (by kernel_rfl) Try.func6 (by kernel_rfl)
    (of_decide_eq_true (by kernel_rfl)) (by unfold Func.isWrapper; first | (rw [if_pos (by decide +kernel)]; kernel_rfl) | (rw [if_neg (by decide +kernel)]; exact ⟨rfl, rfl⟩))
    (fun os started H enc _ => lifted os started H enc)

/-- ████ THE STATEMENT ████ -/
theorem proved : Rows.FnNextHopFullRingLargestPowerOfTwoSaid :=
  over
#print axioms proved
end Go.Proofs.Qxb6603701a.fnNextHopFullRingLargestPowerOfTwo
