/-
  'Rows.FnNextHopWalkReachesSinkSaid' proved: the walk over the contracts of fullTable, NextHop, clockwise, ringBits, the frame by the seat's shell.
-/
import Derived.Test.Qxb6603701aFull
import Derived.WalkKit
import Derived.ProofKit
import Derived.OpenShut
import Derived.ShutString
namespace Go.Proofs.Qxb6603701a.fnNextHopWalkReachesSink
open Go.ChangeShapes Go.WideShapes Go.ChangeAt Go.RowKit
open Go.ChangeMaps (open_string shut_string)
set_option linter.unusedVariables false      -- a walk need not use every 'w<i>' (that an integer argument fits its kind)

theorem own : ownKnob Try.prog.godebug = none := by kernel_rfl

/-! ### STEP 1: THE WALK -/
set_option maxHeartbeats 400000 in
/-- An id that is none: true by the guard. -/
theorem walk_out (a0 a1 : Int) (h : a0 < 0 ∨ 128 ≤ a0 ∨ a1 < 0 ∨ 128 ≤ a1) (w : World) :
    Calls Try.prog 7 #[.int .i32 a0, .int .i32 a1] w fun e w' => e = .returned (.bool true) ∧ Below w.heap.size w w' := by
  by_cases h1 : a0 < 0
  · go_enter Try.func7, Try.ntmps7
    go_wp2
    go_ret
    exact ⟨rfl, Below.refl _ _⟩
  by_cases h2 : 128 ≤ a0
  · go_enter Try.func7, Try.ntmps7
    go_wp2
    go_ret
    exact ⟨rfl, Below.refl _ _⟩
  by_cases h3 : a1 < 0
  · go_enter Try.func7, Try.ntmps7
    go_wp2
    go_ret
    exact ⟨rfl, Below.refl _ _⟩
  have h4 : 128 ≤ a1 := by omega
  go_enter Try.func7, Try.ntmps7
  go_wp2
  go_ret
  exact ⟨rfl, Below.refl _ _⟩

theorem nextHop_full (a0 a1 : Int) (B : Nat) (w : World) (hc : ∀ i, i < 7 → w.cell? ⟨B, i, none⟩ = some (.int .i32 ((fullL a0).getD i 0))) (x : Int) (z : Bool) (R : hop a0 a1 (fullL a0) = (x, z)) :
    Calls Try.prog 12 #[.int .i32 a0, .int .i32 a1, .slice (some ⟨B, 0, none⟩) 7 7] w fun e w' => e = .returned (.tuple #[.int .i32 x, .bool z]) ∧ w' = w := by
  have N := nextHop_row a0 a1 B 7 7 (fullL a0) rfl (by omega) w hc
  rw [R] at N
  exact N

/-- One hop: the next node, and the distance that is left: less than the half. -/
theorem one_hop (c s : Int) (h1 : 0 ≤ c) (h2 : c < 128) (h3 : 0 ≤ s) (h4 : s < 128) (hne : c ≠ s) :
    ∃ x : Int, 0 ≤ x ∧ x < 128 ∧ hop c s (fullL c) = (x, true) ∧ 2 * ((s - x) % 128) < (s - c) % 128 := by
  obtain ⟨j, hj, p1, p2⟩ := full_cases (d := (s - c) % 128) (by omega) (by omega)
  have q1 := pw2_pos j
  refine ⟨(c + pw2 j) % 128, Int.emod_nonneg _ (by omega), Int.emod_lt_of_pos _ (by omega), hop_full c s h3 h4 j hj p1 p2, ?_⟩
  generalize pw2 j = p at *
  omega

set_option maxRecDepth 4000 in
set_option maxHeartbeats 1000000 in
theorem walk_in (a0 a1 : Int) (h1 : 0 ≤ a0) (h2 : a0 < 128) (h3 : 0 ≤ a1) (h4 : a1 < 128) (w : World) :
    Calls Try.prog 7 #[.int .i32 a0, .int .i32 a1] w fun e w' => e = .returned (.bool true) ∧ Below w.heap.size w w' := by
  go_enter Try.func7, Try.ntmps7
  go_wp2_with (first
    | (go_at_call 14; refine (ringBits_any _).mono ?_; rintro e w' ⟨rfl, hw⟩; obtain rfl := hw.symm))
  go_loopw [6, 7] (fun c h wr => ∃ (n : Nat) (x : Int), n ≤ 7 ∧ 0 ≤ x ∧ x < 128 ∧ c = .int .i32 x ∧ h = .int .i64 n ∧ (a1 - x) % 128 < pw2 (7 - n) ∧ Below w.heap.size w wr) (fun _ h _ => 7 - (intOf h).toNat)
  case atStart => exact ⟨0, a0, by omega, h1, h2, rfl, rfl, Int.emod_lt_of_pos _ (by omega), Below.refl _ _⟩
  case round =>
    obtain ⟨n, x, hn, x1, x2, rfl, rfl, hd, hbel⟩ := hrel
    by_cases he : x = a1
    · have hb : (x == a1) = true := by simpa using he
      have hb' : (x != a1) = false := by simpa using he
      clear he
      go_wp2
      go_ret
      exact ⟨rfl, hbel⟩
    · have hb : (x == a1) = false := by simpa using he
      have hb' : (x != a1) = true := by simpa using he
      obtain ⟨y, y1, y2, hR, hy⟩ := one_hop x a1 x1 x2 h3 h4 he
      have R : Hid _ := hR
      have hn7 : n < 7 := by
        by_cases h : n < 7
        · exact h
        · have e : 7 - n = 0 := by omega
          have e0 : pw2 0 = 1 := rfl
          rw [e, e0] at hd
          omega
      have hd' : Hid ((a1 - y) % 128 < pw2 (7 - (n + 1))) := by
        have e : 7 - n = (7 - (n + 1)) + 1 := by omega
        rw [e, pw2_succ] at hd
        show (a1 - y) % 128 < pw2 (7 - (n + 1))
        omega
      have z1 : 0 ≤ (a1 - y) % 128 := Int.emod_nonneg _ (by omega)
      have z2 : (a1 - y) % 128 < 128 := Int.emod_lt_of_pos _ (by omega)
      clear he hR hd
      go_wp2_with (first
        | (go_at_call 15; refine (fullTable_any x x1 x2 _).mono ?_; rintro e w1 ⟨B, rfl, hc, hbel1⟩; have HC : Hid _ := hc; clear hc)
        | (go_at_call 12; refine (nextHop_full _ _ _ _ HC.out _ _ R.out).mono ?_; rintro e w' ⟨rfl, hw⟩; obtain rfl := hw.symm)
        | (go_at_call 13; refine (clockwise_any _ _ (by omega) (by omega) (by omega) (by omega) _).mono ?_; rintro e w' ⟨rfl, hw⟩; obtain rfl := hw.symm))
      go_roundw
      case rel => exact ⟨n + 1, y, by omega, y1, y2, rfl, by go_num, hd'.out, hbel.trans (hbel1.mono hbel.size)⟩
      case measure => simp [intOf]; omega

theorem walk (a0 : Int) (a1 : Int) (w0 : (Lit.int .i32 a0).wf = true) (w1 : (Lit.int .i32 a1).wf = true) (w : World) :
    Calls Try.prog 7 #[.int .i32 a0, .int .i32 a1] w fun e w' => e = .returned (.bool true) ∧ Below w.heap.size w w' := by
  by_cases h : a0 < 0 ∨ 128 ≤ a0 ∨ a1 < 0 ∨ 128 ≤ a1
  · exact walk_out a0 a1 h w
  · exact walk_in a0 a1 (by omega) (by omega) (by omega) (by omega) w

/-! ### THE ROW's STEP: WRITTEN OUT: LEAVE IT -/
set_option maxRecDepth 100000 in
theorem lifted (os : Os) (started : os.Started) (H : Type) (enc : TypeId × Value → H) :
    ReturnsInHanded {} Try.checked os 7 .any (Rows.fnNextHopWalkReachesSinkSpec.pre6 enc Try.prog Try.f7 Rows.fnNextHopWalkReachesSinkRow.domain false) (Rows.fnNextHopWalkReachesSinkSpec.post enc Try.prog Try.f7 false true false false) := by
  refine returnsInHanded_of_change (C := Try.checked) own started (by kernel_rfl) Try.func7
    (ChangeSpec.witness6 (enc := enc) (C := Try.checked) false ⟨#[], #[.int .i32 0, .int .i32 0], []⟩ 8 (by kernel_rfl) (by kernel_rfl) (by kernel_rfl) (by kernel_rfl)) ?_
  intro W base args ds gs before hval0 hW hcnd _
  have hval : ∀ (j : Nat) t v, Try.f7.params[j]? = some t → args[j]? = some v → Value.okWide Try.prog W .any base t v := hval0
  have hW' := hW
  obtain ⟨p, q, hA0, hV, rfl, hfz, hnd⟩ := hW
  have hA : DataW.TrodAll enc Try.prog W 0 (fun _ => true) true Try.f7.params.toList args.toList ds p := hA0
  rw [Try.params7] at hA hval
  obtain ⟨v0, vs0, d0, ds0, p0, q0, hargs, rfl, rfl, h0, r0⟩ := trodAll_cons hA
  obtain ⟨v1, vs1, d1, ds1, p1, q1, rfl, rfl, rfl, h1, r1⟩ := trodAll_cons r0
  obtain ⟨rfl, rfl, rfl⟩ := trodAll_nil r1
  obtain rfl : args = #[v0, v1] := by cases args; simp_all
  obtain ⟨rfl, rfl⟩ := trodVars_none hV
  obtain ⟨a0, rfl, rfl, rfl, w0⟩ := open_int Try.underlying21 (hval 0 21 v0 rfl rfl) h0
  obtain ⟨a1, rfl, rfl, rfl, w1⟩ := open_int Try.underlying21 (hval 1 21 v1 rfl rfl) h1
  clear hA0 hval0
  simp only [List.append_nil] at hW'
  refine (walk a0 a1 w0 w1 W).mono fun e W' ⟨he, hg⟩ => ?_
  subst he
  exact ⟨_, rfl, _, _, _, [], _, [], hW', trodAll_mk1 (shut_bool Try.underlying4 _), (trodAll_cons_mk (shut_int Try.underlying21 w0) (trodAll_cons_mk (shut_int Try.underlying21 w1) trodAll_mk0)), rfl, hg.frame _, fun h => by cases h⟩

theorem over : Rows.fnNextHopWalkReachesSinkRow.holds Try.pinned (OpenSpec.ofChange Rows.fnNextHopWalkReachesSinkSpec) :=
  OpenClaim.holds_of_wide 7 Try.f7 rfl rfl rfl rfl rfl rfl rfl ⟨rfl, rfl, rfl, rfl, rfl⟩ rfl rfl rfl rfl rfl (by kernel_rfl) Try.func7 (by kernel_rfl)
    (of_decide_eq_true (by kernel_rfl)) (by unfold Func.isWrapper; first | (rw [if_pos (by decide +kernel)]; kernel_rfl) | (rw [if_neg (by decide +kernel)]; exact ⟨rfl, rfl⟩))
    (fun os started H enc _ => lifted os started H enc)

/-- ████ THE STATEMENT ████ -/
theorem proved : Rows.FnNextHopWalkReachesSinkSaid :=
  over
#print axioms proved
end Go.Proofs.Qxb6603701a.fnNextHopWalkReachesSink
