/-
  ZZArrayIndex (5), zzBytes (7), the law FnArrayIndexMatchesDecimalModel (4); what the listed variables give.
-/
import Derived.Test.Qxb6603729aDoorIdx
import Derived.Stop.LaidErr
import Derived.MakeChecks
namespace Go.Proofs.Qxb6603729aDoor
open Go.RowKit

set_option maxHeartbeats 400000 in
theorem zz_any (s : ByteArray) (hs : s.size ≤ 1048576) (ev : Value) (w : World) (hv : w.cell? ⟨1, 0, none⟩ = some ev) (hev : ev = .nilIface ∨ ∃ te pe, ev = .iface te pe) :
    Calls Tryd.prog 5 #[.string s] w fun e w' => Ans s.data.toList e ∧ Below w.heap.size w w' := by
  go_enter Tryd.func5, Tryd.ntmps5
  go_wp2_with fail
  refine (index_any s hs ev _ hv hev).mono ?_
  rintro e w1 ⟨⟨i, ok, rfl, ha⟩, hb⟩
  have HA : Hid (AIdx s.data.toList i ok) := ha
  clear ha
  go_wp2
  go_ret2
  exact ⟨⟨_, _, rfl, HA.out⟩, hb⟩

set_option maxHeartbeats 400000 in
theorem bytes_yes (s : ByteArray) (h : s.size ≤ 1048576) (w : World) :
    Calls Tryd.prog 7 #[.string s] w fun e w' => e = .returned (.bool true) ∧ w' = w := by
  go_enter Tryd.func7, Tryd.ntmps7
  go_wp2
  go_ret
  exact ⟨rfl, rfl⟩
set_option maxHeartbeats 400000 in
theorem bytes_no (s : ByteArray) (h0 : s.size ≤ 9223372036854775807) (h : 1048576 < s.size) (w : World) :
    Calls Tryd.prog 7 #[.string s] w fun e w' => e = .returned (.bool false) ∧ w' = w := by
  go_enter Tryd.func7, Tryd.ntmps7
  go_wp2
  go_ret
  exact ⟨rfl, rfl⟩

set_option maxHeartbeats 1000000 in
theorem law4 (s : ByteArray) (w0 : s.size ≤ maxLen) (ev : Value) (w : World) (hv : w.cell? ⟨1, 0, none⟩ = some ev) (hev : ev = .nilIface ∨ ∃ te pe, ev = .iface te pe) :
    Calls Tryd.prog 4 #[.string s] w fun e w' => e = .returned (.bool true) ∧ Below w.heap.size w w' := by
  unfold maxLen at w0
  by_cases h : 1048576 < s.size
  · go_enter Tryd.func4, Tryd.ntmps4
    go_wp2_with (go_at_call 7; refine (bytes_no _ w0 h _).mono ?_; rintro e w' ⟨rfl, hw⟩; obtain rfl := hw.symm)
    go_ret
    exact ⟨rfl, Below.refl _ _⟩
  · have h' : s.size ≤ 1048576 := by omega
    have HV : Hid (w.cell? ⟨1, 0, none⟩ = some ev) := hv
    clear hv
    go_enter Tryd.func4, Tryd.ntmps4
    go_wp2_with (go_at_call 7; refine (bytes_yes _ h' _).mono ?_; rintro e w' ⟨rfl, hw⟩; obtain rfl := hw.symm)
    refine (zz_any s h' ev _ HV.out hev).mono ?_
    rintro e w1 ⟨⟨i, ok, rfl, ha⟩, hb⟩
    have HA : Hid (AIdx s.data.toList i ok) := ha
    clear ha
    go_wp2_with fail
    refine (decimal_any s h' _).mono ?_
    rintro e w2 ⟨⟨j, ok2, rfl, ha2⟩, hw⟩
    obtain rfl := hw.symm
    obtain ⟨rfl, rfl⟩ := AIdx_fun HA.out ha2
    clear ha2
    have e1 : (i == i) = true := by simp
    have e2 : (ok == ok) = true := by simp
    go_wp2
    go_ret
    exact ⟨rfl, hb⟩

/-! ### What the listed variables give -/
theorem gER : Tryd.prog.globalNamed "strconv.ErrRange" = some 1 := by kernel_rfl
theorem gERType : (Tryd.prog.globals[1]?).map (·.type) = some 31 := by kernel_rfl
theorem err_cell {W : World} (h : laidMetH Tryd.prog Rows.fnArrayIndexMatchesDecimalModelRow.laid W) : ∃ u v, W.cell? ⟨1, 0, none⟩ = some (.iface u v) := by
  rw [MakeChecks.laidMetH_plain _ _ _ (by kernel_rfl)] at h
  have h4 : laidMet Tryd.prog [("strconv.ErrRange", Rows.laid_strconv_ErrRange), ("strconv.ErrSyntax", Rows.laid_strconv_ErrSyntax)] W := h.tail.tail.tail
  obtain ⟨ps, ⟨g0, t0, cs0, f0, p0, q0, hg0, ht0, hv0, hd0, _, _⟩, _, _⟩ := h4
  obtain rfl := Option.some.inj (gER.symm.trans hg0)
  obtain rfl := Option.some.inj (gERType.symm.trans ht0)
  obtain ⟨f1, u, v, hcs, _, _⟩ := iface_of_trod Tryd.underlying31 hd0
  refine ⟨u, v, ?_⟩
  have := World.var?_cell hg0 hv0 0
  obtain ⟨l0⟩ := cs0
  simp only at hcs
  subst hcs
  simpa using this
end Go.Proofs.Qxb6603729aDoor
