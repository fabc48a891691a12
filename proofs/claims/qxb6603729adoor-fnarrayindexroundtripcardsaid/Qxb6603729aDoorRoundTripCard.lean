/-
  'Rows.FnArrayIndexRoundTripCardSaid' proved: the row lifted out of the walk, the card closed by the builder over the given tie.
-/
import Derived.Test.Qxb6603729aDoorLaw4
import Derived.Test.Qxb6603729aDoorItoa
import Derived.Test.Qxb6603729aDoorTie
import Derived.Test.Qxb6603729aDoorCards
import Derived.ProofKit
import Derived.LaidMore
import Derived.OpenShut
import Derived.ShutString
import Derived.Stop.Joined
import Derived.SevenTiedAt
namespace Go.Proofs.Qxb6603729aDoor.roundTrip
open Go.ChangeShapes Go.WideShapes Go.ChangeAt Go.RowKit
open Go.ChangeMaps (open_string shut_string)
set_option linter.unusedVariables false

theorem own : ownKnob Tryd.prog.godebug = none := by kernel_rfl

/-! ### The walk -/
set_option maxHeartbeats 1000000 in
theorem law3 (n : Int) (w0 : (Lit.int .i64 n).wf = true) (ev : Value) (w : World) (hv : w.cell? ⟨1, 0, none⟩ = some ev) (hev : ev = .nilIface ∨ ∃ te pe, ev = .iface te pe) :
    Calls Tryd.prog 3 #[.int .i64 n] w fun e w' => e = .returned (.bool true) ∧ Below w.heap.size w w' := by
  obtain ⟨b1, b2⟩ := bounds_i64 w0
  have HV : Hid (w.cell? ⟨1, 0, none⟩ = some ev) := hv
  clear hv w0
  by_cases hn : n < 0
  · go_enter Tryd.func3, Tryd.ntmps3
    go_wp2_with fail
    refine (itoa_any n b1 b2 _).mono ?_
    rintro e w1 ⟨⟨t, rfl, ht, _, ha⟩, hb⟩
    have HA : Hid (AIdx t.data.toList 0 false) := ha hn
    clear ha
    go_wp2_with fail
    refine (zz_any t ht ev _ (cell_later hb HV.out) hev).mono ?_
    rintro e w2 ⟨⟨i, ok, rfl, ha⟩, hb2⟩
    obtain ⟨rfl, rfl⟩ := AIdx_fun ha HA.out
    clear ha
    go_wp2
    go_ret
    exact ⟨rfl, hb.trans (hb2.mono hb.size)⟩
  · go_enter Tryd.func3, Tryd.ntmps3
    go_wp2_with fail
    refine (itoa_any n b1 b2 _).mono ?_
    rintro e w1 ⟨⟨t, rfl, ht, ha, _⟩, hb⟩
    have HA : Hid (AIdx t.data.toList n true) := ha (by omega)
    clear ha
    go_wp2_with fail
    refine (zz_any t ht ev _ (cell_later hb HV.out) hev).mono ?_
    rintro e w2 ⟨⟨i, ok, rfl, ha⟩, hb2⟩
    obtain ⟨hi, rfl⟩ := AIdx_fun ha HA.out
    clear ha
    have e1 : (i == n) = true := by simpa using hi
    clear hi
    go_wp2
    go_ret
    exact ⟨rfl, hb.trans (hb2.mono hb.size)⟩

/-! ### The row -/
theorem err_cell' {W : World} (h : laidMetH Tryd.prog Rows.fnArrayIndexRoundTripRow.laid W) : ∃ u v, W.cell? ⟨1, 0, none⟩ = some (.iface u v) := err_cell h

/-- The heap that the door's own run leaves meets the list: closed facts. -/
theorem door_met (os : Os) (args : Array Value) : laidMetH Tryd.prog Rows.fnArrayIndexRoundTripRow.laid ((World.doorLaid Tryd.prog 62 os).forCall (fun _ _ => 0) ⟨#[], args, []⟩).memory :=
  laidMetH_of_parts3 (fuel := 8) (laidMet_of_run' 8 (by kernel_rfl) (by kernel_rfl)) (by kernel_rfl) (by kernel_rfl)

set_option maxRecDepth 100000 in
theorem lifted (os : Os) (started : os.Started) (H : Type) (enc : TypeId × Value → H) :
    ReturnsInHanded {} Tryd.checked os 3 .any (fun w args => (Rows.fnArrayIndexRoundTripSpec.pre enc Tryd.prog Tryd.f3 [] false w args ∧ laidMetH Tryd.prog Rows.fnArrayIndexRoundTripRow.laid w) ∧ sizedMet enc Tryd.prog Tryd.f3 (OpenSpec.ofChange Rows.fnArrayIndexRoundTripSpec) false w args)
      (Rows.fnArrayIndexRoundTripSpec.post enc Tryd.prog Tryd.f3 false true false false) := by
  refine returnsInHanded_of_change_and (C := Tryd.checked) (X := fun w _ => laidMetH Tryd.prog Rows.fnArrayIndexRoundTripRow.laid w) (fun _ _ _ hh h => h.of_heap hh) own started (by kernel_rfl) Tryd.func3
    (ChangeSpec.witness_shaped (enc := enc) (C := Tryd.checked) (os := os) (X := fun w _ => laidMetH Tryd.prog Rows.fnArrayIndexRoundTripRow.laid w) false (World.doorLaid Tryd.prog 62 os) #[.int .i64 0] 8 rfl (World.shaped_of_RefB (by kernel_rfl) (by kernel_rfl)) (by kernel_rfl) (by kernel_rfl) (by kernel_rfl) (door_met os _)) ?_
  intro W base args ds gs before hval0 hW _ _ hL _
  have hval : ∀ (j : Nat) t v, Tryd.f3.params[j]? = some t → args[j]? = some v → Value.okWide Tryd.prog W .any base t v := hval0
  have hW' := hW
  obtain ⟨p, q, hA0, hV, rfl, hfz, hnd⟩ := hW
  have hA : DataW.TrodAll enc Tryd.prog W 0 (fun _ => true) true Tryd.f3.params.toList args.toList ds p := hA0
  rw [Tryd.params3] at hA hval
  obtain ⟨v0, d0, rfl, rfl, h0⟩ := trodAll_one hA
  obtain ⟨rfl, rfl⟩ := trodVars_none hV
  obtain ⟨a0, rfl, rfl, rfl, w0⟩ := open_int Tryd.underlying3 (hval 0 3 v0 rfl rfl) h0
  obtain ⟨u, x, hcell⟩ := err_cell' hL
  clear hA0 hval0
  simp only [List.append_nil] at hW'
  refine (law3 a0 w0 _ W hcell (.inr ⟨u, x, rfl⟩)).mono fun e W' ⟨he, hg⟩ => ?_
  subst he
  exact ⟨_, rfl, _, _, _, [], _, [], hW', trodAll_mk1 (shut_bool Tryd.underlying4 _), trodAll_mk1 (shut_int Tryd.underlying3 w0), rfl, hg.frame _, fun h => by cases h⟩

theorem row_holds : Rows.FnArrayIndexRoundTripSaid :=
  OpenClaim.holds_of_wide 3 Tryd.f3 rfl rfl rfl rfl rfl rfl rfl ⟨rfl, rfl, rfl, rfl, rfl⟩ rfl rfl rfl rfl rfl (by kernel_rfl) Tryd.func3 (by kernel_rfl)
    (of_decide_eq_true (by kernel_rfl)) (by unfold Func.isWrapper; first | (rw [if_pos (by decide +kernel)]; kernel_rfl) | (rw [if_neg (by decide +kernel)]; exact ⟨rfl, rfl⟩))
    (fun os started H enc _ => lifted os started H enc)

/-- ████ THE STATEMENT: the tied card ████ -/
theorem proved : Rows.FnArrayIndexRoundTripCardSaid :=
  Claim7.holds_tied_plain_at .later [] [.data, .data, .data, .called, .called] true (true, _) true
    row_holds (fun _ h => by cases h) (by kernel_rfl) (fun _ h => by cases h) fnArrayIndexRoundTrip_row_tie rfl ⟨rfl, rfl⟩ (by kernel_rfl) rfl
    (fun f fn hf hfn => by
      obtain rfl : f = 3 := Option.some.inj ((show Tryd.prog.funcNamed Rows.fnArrayIndexRoundTripRow.func = some 3 by kernel_rfl).symm.trans hf) |>.symm
      obtain rfl : fn = Tryd.f3 := (Option.some.inj (Tryd.func3.symm.trans hfn)).symm
      exact ⟨by kernel_rfl, fun j t ht => by
        rw [Tryd.params3] at ht
        have hm : t ∈ [3] := by simpa using Array.mem_of_getElem? ht
        have hall : ([3].all fun u => !Tryd.prog.wantsStandIn u) = true := by kernel_rfl
        exact (show Tryd.prog.wantsStandIn t = false by simpa using List.all_eq_true.1 hall t hm)⟩)
    (by kernel_rfl)
#print axioms proved
end Go.Proofs.Qxb6603729aDoor.roundTrip
