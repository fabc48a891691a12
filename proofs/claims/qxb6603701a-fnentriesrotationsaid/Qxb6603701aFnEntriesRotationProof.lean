/-
  'Rows.FnEntriesRotationSaid' proved: the walk over ring.Entries' contract (Qxb6603701aEntries), the frame by the seat's shell.
-/
import Derived.Test.Qxb6603701aEntries
import Derived.WalkKit
import Derived.ProofKit
import Derived.OpenShut
import Derived.ShutString
import Derived.Deep.QuietTactic
import Derived.BigQuiet
namespace Go.Proofs.Qxb6603701a.fnEntriesRotation
open Go.ChangeShapes Go.WideShapes Go.ChangeAt Go.RowKit
open Go.ChangeMaps (open_string shut_string)
set_option linter.unusedVariables false      -- a walk need not use every 'w<i>' (that an integer argument fits its kind)

theorem own : ownKnob Try.prog.godebug = none := by kernel_rfl

/-! ### STEP 1: THE WALK -/
set_option maxHeartbeats 400000 in
/-- Outside the guards. -/
theorem walk_out (n p k : Int) (h : n < 1 ∨ p < 0 ∨ n ≤ p ∨ k < 0 ∨ 63 < k) (w : World) :
    Calls Try.prog 4 #[.int .i64 n, .int .i64 p, .int .i64 k] w fun e w' => e = .returned (.bool true) ∧ Below w.heap.size w w' := by
  by_cases h1 : n < 1
  · go_enter Try.func4, Try.ntmps4
    go_wp2
    go_ret
    exact ⟨rfl, Below.refl _ _⟩
  by_cases h2 : p < 0
  · go_enter Try.func4, Try.ntmps4
    go_wp2
    go_ret
    exact ⟨rfl, Below.refl _ _⟩
  by_cases h3 : n ≤ p
  · go_enter Try.func4, Try.ntmps4
    go_wp2
    go_ret
    exact ⟨rfl, Below.refl _ _⟩
  by_cases h4 : k < 0
  · go_enter Try.func4, Try.ntmps4
    go_wp2
    go_ret
    exact ⟨rfl, Below.refl _ _⟩
  have h5 : 63 < k := by omega
  go_enter Try.func4, Try.ntmps4
  go_wp2
  go_ret
  exact ⟨rfl, Below.refl _ _⟩

theorem pw2_62 (K : Nat) (hK : K ≤ 63) : (2 : Int) ^ (K - 1) ≤ 4611686018427387904 := pw2_mono (a := K - 1) (b := 62) (by omega)

set_option maxHeartbeats 400000 in
/-- The last guard: p + 2^(k-1) overflows. -/
theorem walk_over (n p : Int) (K : Nat) (h1 : 1 ≤ n) (h2 : 0 ≤ p) (h3 : p < n) (hK : K ≤ 63) (h0 : 0 < K) (ho : 9223372036854775807 - 2 ^ (K - 1) < p) (w : World) :
    Calls Try.prog 4 #[.int .i64 n, .int .i64 p, .int .i64 K] w fun e w' => e = .returned (.bool true) ∧ Below w.heap.size w w' := by
  have g1 : (1 : Int) ≤ 2 ^ (K - 1) := pw2_pos _
  have g2 := pw2_62 K hK
  go_enter Try.func4, Try.ntmps4
  go_wp2
  go_ret
  exact ⟨rfl, Below.refl _ _⟩

theorem entry_turn (n p : Int) (j : Nat) : entry n p j = (entry n 0 j + p) % n := by
  unfold entry; rw [Int.emod_add_emod]; congr 1; omega
theorem own_lt {w : World} {base : Nat} {e : TypeId} {size g n cap : Nat} {xs : List Value} (h : w.ownsRow base e size (.slice (some ⟨g, 0, none⟩) n cap) n xs) : g < w.heap.size := by
  rcases h.2 with ⟨h', _⟩ | ⟨g', cap', cur, h', _, hg, _⟩
  · simp at h'
  · simp only [Value.slice.injEq, Option.some.injEq, Addr.mk.injEq, and_true, true_and] at h'
    obtain ⟨rfl, rfl⟩ := h'
    exact (Array.getElem?_eq_some_iff.1 hg).1

set_option maxHeartbeats 400000 in
/-- Inside them. -/
theorem walk_in (n p : Int) (K : Nat) (h1 : 1 ≤ n) (h2 : 0 ≤ p) (h3 : p < n) (hn : n ≤ 9223372036854775807) (hK : K ≤ 63) (ho : 0 < K → p ≤ 9223372036854775807 - 2 ^ (K - 1)) (w : World) :
    Calls Try.prog 4 #[.int .i64 n, .int .i64 p, .int .i64 K] w fun e w' => e = .returned (.bool true) ∧ Below w.heap.size w w' := by
  have g1 : (1 : Int) ≤ 2 ^ (K - 1) := pw2_pos _
  have g2 := pw2_62 K hK
  have hE : ∀ i, i < K → p + pw2 i ≤ 9223372036854775807 := fun i hi => by
    have := ho (by omega)
    have h : pw2 i ≤ pw2 (K - 1) := pw2_mono (by omega)
    unfold pw2 at h ⊢
    omega
  have hE0 : ∀ i, i < K → 0 + pw2 i ≤ 9223372036854775807 := fun i hi => by
    have := hE i hi
    omega
  by_cases h0 : 0 < K
  all_goals
    have ho' := ho
    clear ho
    first | (have ho := ho' h0; clear ho') | clear ho'
    go_enter Try.func4, Try.ntmps4
    go_wp2_with fail
    refine (entries_any n 0 K h1 hn (Int.le_refl _) hK hE0 _).mono ?_
    rintro e w1 ⟨rfl, hown1, hbel1⟩
    go_wp2_with fail
    refine (entries_any n p K h1 hn h2 hK hE _).mono ?_
    rintro e w2 ⟨rfl, hown2, hbel2⟩
    have hlt1 := own_lt hown1
    have c1 : ∀ i, i < K → w2.cell? ⟨w.heap.size, i, none⟩ = some (.int .i64 (entry n 0 i)) := fun i hi => by
      rw [hbel2.cell (p := ⟨w.heap.size, i, none⟩) hlt1, hown1.cellAt i (by omega), entries_at n 0 K i hi]
    have c2 : ∀ i, i < K → w2.cell? ⟨w1.heap.size, i, none⟩ = some (.int .i64 ((entry n 0 i + p) % n)) := fun i hi => by
      rw [hown2.cellAt i (by omega), entries_at n p K i hi, entry_turn]
    have hb : Below w.heap.size w w2 := hbel1.trans (hbel2.mono hbel1.size)
    clear hown1 hown2 hbel1 hbel2
    have C1 : Hid (∀ i, i < K → w2.cell? ⟨w.heap.size, i, none⟩ = some (.int .i64 (entry n 0 i))) := c1
    have C2 : Hid (∀ i, i < K → w2.cell? ⟨w1.heap.size, i, none⟩ = some (.int .i64 ((entry n 0 i + p) % n))) := c2
    clear c1 c2
    go_wp2_with fail
    go_loopw [9] (fun i wr => ∃ j : Nat, j ≤ K ∧ i = .int .i64 j ∧ (∀ i, i < K → wr.cell? ⟨w.heap.size, i, none⟩ = some (.int .i64 (entry n 0 i))) ∧ (∀ i, i < K → wr.cell? ⟨w1.heap.size, i, none⟩ = some (.int .i64 ((entry n 0 i + p) % n))) ∧ Below w.heap.size w wr) (fun i _ => K - (intOf i).toNat)
    case atStart => exact ⟨0, Nat.zero_le _, rfl, C1.out, C2.out, hb⟩
    case round =>
      obtain ⟨j, hj, rfl, c1, c2, hbel⟩ := hrel
      have m1 : 0 ≤ entry n 0 j := Int.emod_nonneg _ (by omega)
      have m2 : entry n 0 j < n := Int.emod_lt_of_pos _ (by omega)
      by_cases hlt : j < K
      · try (exfalso; omega)
        all_goals
          have d1 := c1 j hlt
          have d2 := c2 j hlt
          have D1 : Hid (∀ i, i < K → wr.cell? ⟨w.heap.size, i, none⟩ = some (.int .i64 (entry n 0 i))) := c1
          have D2 : Hid (∀ i, i < K → wr.cell? ⟨w1.heap.size, i, none⟩ = some (.int .i64 ((entry n 0 i + p) % n))) := c2
          have hlt' : (j : Int) < (K : Int) := by omega
          clear c1 c2
          go_wp2_with fail
          go_quiet ((go_at_call 9; exact Calls.quiet_of_same (addMod_any _ _ _ (by omega) (by omega) (by omega) (by omega) (by omega) _)))
          go_wp2
          go_roundw
          case rel => exact ⟨j + 1, by omega, by go_num, D1.out, D2.out, below_drewN hbel _⟩
          case measure => simp [intOf]; omega
      · go_wp2
        go_ret
        exact ⟨rfl, hbel⟩

theorem walk (a0 : Int) (a1 : Int) (a2 : Int) (w0 : (Lit.int .i64 a0).wf = true) (w1 : (Lit.int .i64 a1).wf = true) (w2 : (Lit.int .i64 a2).wf = true) (w : World) :
    Calls Try.prog 4 #[.int .i64 a0, .int .i64 a1, .int .i64 a2] w fun e w' => e = .returned (.bool true) ∧ Below w.heap.size w w' := by
  have b0 := bounds_i64 w0
  by_cases h : a0 < 1 ∨ a1 < 0 ∨ a0 ≤ a1 ∨ a2 < 0 ∨ 63 < a2
  · exact walk_out a0 a1 a2 h w
  · obtain ⟨K, rfl⟩ : ∃ K : Nat, a2 = K := ⟨a2.toNat, by omega⟩
    by_cases ho : 0 < K ∧ 9223372036854775807 - 2 ^ (K - 1) < a1
    · exact walk_over a0 a1 K (by omega) (by omega) (by omega) (by omega) ho.1 ho.2 w
    · exact walk_in a0 a1 K (by omega) (by omega) (by omega) (by omega) (by omega) (fun h0 => by
        have : ¬ 9223372036854775807 - 2 ^ (K - 1) < a1 := fun h => ho ⟨h0, h⟩
        omega) w

/-! ### THE ROW's STEP: WRITTEN OUT: LEAVE IT -/
set_option maxRecDepth 100000 in
theorem lifted (os : Os) (started : os.Started) (H : Type) (enc : TypeId × Value → H) :
    ReturnsInHanded {} Try.checked os 4 .any (Rows.fnEntriesRotationSpec.pre6 enc Try.prog Try.f4 Rows.fnEntriesRotationRow.domain false) (Rows.fnEntriesRotationSpec.post enc Try.prog Try.f4 false true false false) := by
  refine returnsInHanded_of_change (C := Try.checked) own started (by kernel_rfl) Try.func4
    (ChangeSpec.witness6 (enc := enc) (C := Try.checked) false ⟨#[], #[.int .i64 0, .int .i64 0, .int .i64 0], []⟩ 8 (by kernel_rfl) (by kernel_rfl) (by kernel_rfl) (by kernel_rfl)) ?_
  intro W base args ds gs before hval0 hW hcnd _
  have hval : ∀ (j : Nat) t v, Try.f4.params[j]? = some t → args[j]? = some v → Value.okWide Try.prog W .any base t v := hval0
  have hW' := hW
  obtain ⟨p, q, hA0, hV, rfl, hfz, hnd⟩ := hW
  have hA : DataW.TrodAll enc Try.prog W 0 (fun _ => true) true Try.f4.params.toList args.toList ds p := hA0
  rw [Try.params4] at hA hval
  obtain ⟨v0, vs0, d0, ds0, p0, q0, hargs, rfl, rfl, h0, r0⟩ := trodAll_cons hA
  obtain ⟨v1, vs1, d1, ds1, p1, q1, rfl, rfl, rfl, h1, r1⟩ := trodAll_cons r0
  obtain ⟨v2, vs2, d2, ds2, p2, q2, rfl, rfl, rfl, h2, r2⟩ := trodAll_cons r1
  obtain ⟨rfl, rfl, rfl⟩ := trodAll_nil r2
  obtain rfl : args = #[v0, v1, v2] := by cases args; simp_all
  obtain ⟨rfl, rfl⟩ := trodVars_none hV
  obtain ⟨a0, rfl, rfl, rfl, w0⟩ := open_int Try.underlying3 (hval 0 3 v0 rfl rfl) h0
  obtain ⟨a1, rfl, rfl, rfl, w1⟩ := open_int Try.underlying3 (hval 1 3 v1 rfl rfl) h1
  obtain ⟨a2, rfl, rfl, rfl, w2⟩ := open_int Try.underlying3 (hval 2 3 v2 rfl rfl) h2
  clear hA0 hval0
  simp only [List.append_nil] at hW'
  refine (walk a0 a1 a2 w0 w1 w2 W).mono fun e W' ⟨he, hg⟩ => ?_
  subst he
  exact ⟨_, rfl, _, _, _, [], _, [], hW', trodAll_mk1 (shut_bool Try.underlying4 _), (trodAll_cons_mk (shut_int Try.underlying3 w0) (trodAll_cons_mk (shut_int Try.underlying3 w1) (trodAll_cons_mk (shut_int Try.underlying3 w2) trodAll_mk0))), rfl, hg.frame _, fun h => by cases h⟩

theorem over : Rows.fnEntriesRotationRow.holds Try.pinned (OpenSpec.ofChange Rows.fnEntriesRotationSpec) :=
  OpenClaim.holds_of_wide 4 Try.f4 rfl rfl rfl rfl rfl rfl rfl ⟨rfl, rfl, rfl, rfl, rfl⟩ rfl rfl rfl rfl rfl (by kernel_rfl) Try.func4 (by kernel_rfl)
    (of_decide_eq_true (by kernel_rfl)) (by unfold Func.isWrapper; first | (rw [if_pos (by decide +kernel)]; kernel_rfl) | (rw [if_neg (by decide +kernel)]; exact ⟨rfl, rfl⟩))
    (fun os started H enc _ => lifted os started H enc)

/-- ████ THE STATEMENT ████ -/
theorem proved : Rows.FnEntriesRotationSaid :=
  over
#print axioms proved
end Go.Proofs.Qxb6603701a.fnEntriesRotation
