/-
  THE FULL RING: the plain law of NextHop over the table of powers of two; fullTable (15).
-/
import Derived.Test.Qxb6603701aEntries
import Derived.Test.Qxb6603701aHop
namespace Go.Proofs.Qxb6603701a
open Go.RowKit

/-! ### The plain law -/
def fullL (self : Int) : List Int := [(self + 1) % 128, (self + 2) % 128, (self + 4) % 128, (self + 8) % 128, (self + 16) % 128, (self + 32) % 128, (self + 64) % 128]

theorem full_yes {self d nx bs x : Int} {ok : Bool} (hx : 0 ≤ x ∧ x < 128) (h1 : x < d) (h2 : bs < x) : hopStep self d (nx, bs, ok) ((self + x) % 128) = ((self + x) % 128, x, true) := by
  have e : ((self + x) % 128 - self) % 128 = x := by omega
  have h := hopStep_yes (self := self) (d := d) (e := (self + x) % 128) (nx := nx) (bs := bs) (ok := ok) (by rw [e]; exact h1) (by rw [e]; exact h2)
  rw [h, e]
theorem full_no {self d nx bs x : Int} {ok : Bool} (hx : 0 ≤ x ∧ x < 128) (h1 : d ≤ x) : hopStep self d (nx, bs, ok) ((self + x) % 128) = (nx, bs, ok) := by
  have e : ((self + x) % 128 - self) % 128 = x := by omega
  exact hopStep_no1 (by rw [e]; exact h1)

theorem full_cases {d : Int} (h1 : 1 ≤ d) (h2 : d < 128) : ∃ j : Nat, j ≤ 6 ∧ pw2 j ≤ d ∧ d < 2 * pw2 j := by
  have e0 : pw2 0 = 1 := rfl
  have e1 : pw2 1 = 2 := rfl
  have e2 : pw2 2 = 4 := rfl
  have e3 : pw2 3 = 8 := rfl
  have e4 : pw2 4 = 16 := rfl
  have e5 : pw2 5 = 32 := rfl
  have e6 : pw2 6 = 64 := rfl
  by_cases c1 : d < 2
  · exact ⟨0, by omega, by omega, by omega⟩
  by_cases c2 : d < 4
  · exact ⟨1, by omega, by omega, by omega⟩
  by_cases c3 : d < 8
  · exact ⟨2, by omega, by omega, by omega⟩
  by_cases c4 : d < 16
  · exact ⟨3, by omega, by omega, by omega⟩
  by_cases c5 : d < 32
  · exact ⟨4, by omega, by omega, by omega⟩
  by_cases c6 : d < 64
  · exact ⟨5, by omega, by omega, by omega⟩
  exact ⟨6, by omega, by omega, by omega⟩

theorem hopF_full (self d : Int) (x : Int) (hx : x = 1 ∨ x = 2 ∨ x = 4 ∨ x = 8 ∨ x = 16 ∨ x = 32 ∨ x = 64) (h1 : x < d) (h2 : d < 2 * x) :
    hopF self d (fullL self) = ((self + x) % 128, x, true) := by
  simp only [hopF, fullL, List.foldl_cons, List.foldl_nil]
  rcases hx with rfl | rfl | rfl | rfl | rfl | rfl | rfl
  · rw [full_yes (self := self) (d := d) (nx := 0) (bs := 0) (ok := false) (x := 1) (by omega) (by omega) (by omega), full_no (self := self) (d := d) (nx := (self + 1) % 128) (bs := 1) (ok := true) (x := 2) (by omega) (by omega), full_no (self := self) (d := d) (nx := (self + 1) % 128) (bs := 1) (ok := true) (x := 4) (by omega) (by omega), full_no (self := self) (d := d) (nx := (self + 1) % 128) (bs := 1) (ok := true) (x := 8) (by omega) (by omega), full_no (self := self) (d := d) (nx := (self + 1) % 128) (bs := 1) (ok := true) (x := 16) (by omega) (by omega), full_no (self := self) (d := d) (nx := (self + 1) % 128) (bs := 1) (ok := true) (x := 32) (by omega) (by omega), full_no (self := self) (d := d) (nx := (self + 1) % 128) (bs := 1) (ok := true) (x := 64) (by omega) (by omega)]
  · rw [full_yes (self := self) (d := d) (nx := 0) (bs := 0) (ok := false) (x := 1) (by omega) (by omega) (by omega), full_yes (self := self) (d := d) (nx := (self + 1) % 128) (bs := 1) (ok := true) (x := 2) (by omega) (by omega) (by omega), full_no (self := self) (d := d) (nx := (self + 2) % 128) (bs := 2) (ok := true) (x := 4) (by omega) (by omega), full_no (self := self) (d := d) (nx := (self + 2) % 128) (bs := 2) (ok := true) (x := 8) (by omega) (by omega), full_no (self := self) (d := d) (nx := (self + 2) % 128) (bs := 2) (ok := true) (x := 16) (by omega) (by omega), full_no (self := self) (d := d) (nx := (self + 2) % 128) (bs := 2) (ok := true) (x := 32) (by omega) (by omega), full_no (self := self) (d := d) (nx := (self + 2) % 128) (bs := 2) (ok := true) (x := 64) (by omega) (by omega)]
  · rw [full_yes (self := self) (d := d) (nx := 0) (bs := 0) (ok := false) (x := 1) (by omega) (by omega) (by omega), full_yes (self := self) (d := d) (nx := (self + 1) % 128) (bs := 1) (ok := true) (x := 2) (by omega) (by omega) (by omega), full_yes (self := self) (d := d) (nx := (self + 2) % 128) (bs := 2) (ok := true) (x := 4) (by omega) (by omega) (by omega), full_no (self := self) (d := d) (nx := (self + 4) % 128) (bs := 4) (ok := true) (x := 8) (by omega) (by omega), full_no (self := self) (d := d) (nx := (self + 4) % 128) (bs := 4) (ok := true) (x := 16) (by omega) (by omega), full_no (self := self) (d := d) (nx := (self + 4) % 128) (bs := 4) (ok := true) (x := 32) (by omega) (by omega), full_no (self := self) (d := d) (nx := (self + 4) % 128) (bs := 4) (ok := true) (x := 64) (by omega) (by omega)]
  · rw [full_yes (self := self) (d := d) (nx := 0) (bs := 0) (ok := false) (x := 1) (by omega) (by omega) (by omega), full_yes (self := self) (d := d) (nx := (self + 1) % 128) (bs := 1) (ok := true) (x := 2) (by omega) (by omega) (by omega), full_yes (self := self) (d := d) (nx := (self + 2) % 128) (bs := 2) (ok := true) (x := 4) (by omega) (by omega) (by omega), full_yes (self := self) (d := d) (nx := (self + 4) % 128) (bs := 4) (ok := true) (x := 8) (by omega) (by omega) (by omega), full_no (self := self) (d := d) (nx := (self + 8) % 128) (bs := 8) (ok := true) (x := 16) (by omega) (by omega), full_no (self := self) (d := d) (nx := (self + 8) % 128) (bs := 8) (ok := true) (x := 32) (by omega) (by omega), full_no (self := self) (d := d) (nx := (self + 8) % 128) (bs := 8) (ok := true) (x := 64) (by omega) (by omega)]
  · rw [full_yes (self := self) (d := d) (nx := 0) (bs := 0) (ok := false) (x := 1) (by omega) (by omega) (by omega), full_yes (self := self) (d := d) (nx := (self + 1) % 128) (bs := 1) (ok := true) (x := 2) (by omega) (by omega) (by omega), full_yes (self := self) (d := d) (nx := (self + 2) % 128) (bs := 2) (ok := true) (x := 4) (by omega) (by omega) (by omega), full_yes (self := self) (d := d) (nx := (self + 4) % 128) (bs := 4) (ok := true) (x := 8) (by omega) (by omega) (by omega), full_yes (self := self) (d := d) (nx := (self + 8) % 128) (bs := 8) (ok := true) (x := 16) (by omega) (by omega) (by omega), full_no (self := self) (d := d) (nx := (self + 16) % 128) (bs := 16) (ok := true) (x := 32) (by omega) (by omega), full_no (self := self) (d := d) (nx := (self + 16) % 128) (bs := 16) (ok := true) (x := 64) (by omega) (by omega)]
  · rw [full_yes (self := self) (d := d) (nx := 0) (bs := 0) (ok := false) (x := 1) (by omega) (by omega) (by omega), full_yes (self := self) (d := d) (nx := (self + 1) % 128) (bs := 1) (ok := true) (x := 2) (by omega) (by omega) (by omega), full_yes (self := self) (d := d) (nx := (self + 2) % 128) (bs := 2) (ok := true) (x := 4) (by omega) (by omega) (by omega), full_yes (self := self) (d := d) (nx := (self + 4) % 128) (bs := 4) (ok := true) (x := 8) (by omega) (by omega) (by omega), full_yes (self := self) (d := d) (nx := (self + 8) % 128) (bs := 8) (ok := true) (x := 16) (by omega) (by omega) (by omega), full_yes (self := self) (d := d) (nx := (self + 16) % 128) (bs := 16) (ok := true) (x := 32) (by omega) (by omega) (by omega), full_no (self := self) (d := d) (nx := (self + 32) % 128) (bs := 32) (ok := true) (x := 64) (by omega) (by omega)]
  · rw [full_yes (self := self) (d := d) (nx := 0) (bs := 0) (ok := false) (x := 1) (by omega) (by omega) (by omega), full_yes (self := self) (d := d) (nx := (self + 1) % 128) (bs := 1) (ok := true) (x := 2) (by omega) (by omega) (by omega), full_yes (self := self) (d := d) (nx := (self + 2) % 128) (bs := 2) (ok := true) (x := 4) (by omega) (by omega) (by omega), full_yes (self := self) (d := d) (nx := (self + 4) % 128) (bs := 4) (ok := true) (x := 8) (by omega) (by omega) (by omega), full_yes (self := self) (d := d) (nx := (self + 8) % 128) (bs := 8) (ok := true) (x := 16) (by omega) (by omega) (by omega), full_yes (self := self) (d := d) (nx := (self + 16) % 128) (bs := 16) (ok := true) (x := 32) (by omega) (by omega) (by omega), full_yes (self := self) (d := d) (nx := (self + 32) % 128) (bs := 32) (ok := true) (x := 64) (by omega) (by omega) (by omega)]

theorem hop_self (self : Int) : hop self self (fullL self) = (0, false) := by
  have hm : ¬ self ∈ fullL self := by
    simp only [fullL, List.mem_cons, List.not_mem_nil, or_false]
    omega
  have e : (self - self) % 128 = 0 := by omega
  have hF : hopF self 0 (fullL self) = (0, 0, false) := by
    simp only [hopF, fullL, List.foldl_cons, List.foldl_nil]
    rw [full_no (self := self) (d := 0) (nx := 0) (bs := 0) (ok := false) (x := 1) (by omega) (by omega), full_no (self := self) (d := 0) (nx := 0) (bs := 0) (ok := false) (x := 2) (by omega) (by omega), full_no (self := self) (d := 0) (nx := 0) (bs := 0) (ok := false) (x := 4) (by omega) (by omega), full_no (self := self) (d := 0) (nx := 0) (bs := 0) (ok := false) (x := 8) (by omega) (by omega), full_no (self := self) (d := 0) (nx := 0) (bs := 0) (ok := false) (x := 16) (by omega) (by omega), full_no (self := self) (d := 0) (nx := 0) (bs := 0) (ok := false) (x := 32) (by omega) (by omega), full_no (self := self) (d := 0) (nx := 0) (bs := 0) (ok := false) (x := 64) (by omega) (by omega)]
  unfold hop
  rw [if_neg hm, e, hF]

theorem hop_full (self sink : Int) (s1 : 0 ≤ sink) (s2 : sink < 128) (j : Nat) (hj : j ≤ 6) (h1 : pw2 j ≤ (sink - self) % 128) (h2 : (sink - self) % 128 < 2 * pw2 j) :
    hop self sink (fullL self) = ((self + pw2 j) % 128, true) := by
  have hx : pw2 j = 1 ∨ pw2 j = 2 ∨ pw2 j = 4 ∨ pw2 j = 8 ∨ pw2 j = 16 ∨ pw2 j = 32 ∨ pw2 j = 64 := by
    match j, hj with
    | 0, _ => exact .inl rfl
    | 1, _ => exact .inr (.inl rfl)
    | 2, _ => exact .inr (.inr (.inl rfl))
    | 3, _ => exact .inr (.inr (.inr (.inl rfl)))
    | 4, _ => exact .inr (.inr (.inr (.inr (.inl rfl))))
    | 5, _ => exact .inr (.inr (.inr (.inr (.inr (.inl rfl)))))
    | 6, _ => exact .inr (.inr (.inr (.inr (.inr (.inr rfl)))))
  generalize pw2 j = x at *
  unfold hop
  by_cases he : (sink - self) % 128 = x
  · have e : sink = (self + x) % 128 := by omega
    have hm : sink ∈ fullL self := by
      simp only [fullL, List.mem_cons, List.not_mem_nil, or_false]
      rcases hx with rfl | rfl | rfl | rfl | rfl | rfl | rfl <;> simp [e]
    rw [if_pos hm, ← e]
  · have hm : ¬ sink ∈ fullL self := by
      simp only [fullL, List.mem_cons, List.not_mem_nil, or_false]
      rcases hx with rfl | rfl | rfl | rfl | rfl | rfl | rfl <;> omega
    rw [if_neg hm, hopF_full self _ x hx (by omega) h2]

/-! ### fullTable: that list, in new memory -/
theorem fullL_at (self : Int) (i : Nat) (h : i < 7) : (fullL self).getD i 0 = entry 128 self i := by
  match i, h with
  | 0, _ => rfl
  | 1, _ => rfl
  | 2, _ => rfl
  | 3, _ => rfl
  | 4, _ => rfl
  | 5, _ => rfl
  | 6, _ => rfl

theorem own_lt {w : World} {base : Nat} {e : TypeId} {size g n cap : Nat} {xs : List Value} (h : w.ownsRow base e size (.slice (some ⟨g, 0, none⟩) n cap) n xs) : g < w.heap.size := by
  rcases h.2 with ⟨h', _⟩ | ⟨g', cap', cur, h', _, hg, _⟩
  · simp at h'
  · simp only [Value.slice.injEq, Option.some.injEq, Addr.mk.injEq, and_true, true_and] at h'
    obtain ⟨rfl, rfl⟩ := h'
    exact (Array.getElem?_eq_some_iff.1 hg).1

set_option maxHeartbeats 400000 in
theorem fullTable_any (self : Int) (h1 : 0 ≤ self) (h2 : self < 128) (w : World) :
    Calls Try.prog 15 #[.int .i32 self, .int .i64 7] w fun e w' => ∃ B, e = .returned (.slice (some ⟨B, 0, none⟩) 7 7) ∧ (∀ i, i < 7 → w'.cell? ⟨B, i, none⟩ = some (.int .i32 ((fullL self).getD i 0))) ∧ Below w.heap.size w w' := by
  have hE : ∀ i, i < 7 → self + pw2 i ≤ 9223372036854775807 := fun i hi => by
    have h : pw2 i ≤ pw2 7 := pw2_mono (by omega)
    have e : pw2 7 = 128 := rfl
    omega
  have HE : Hid _ := hE
  clear hE
  obtain ⟨i0, hi, hz0, hz1, hz2⟩ := info_parts Try.info21
  go_enter Try.func15, Try.ntmps15
  go_wp2_with fail
  refine (entries_any 128 self 7 (by omega) (by omega) h1 (by omega) HE.out _).mono ?_
  rintro e w1 ⟨rfl, hown1, hbel1⟩
  have hlt1 := own_lt hown1
  have c1 : ∀ i, i < 7 → w1.cell? ⟨w.heap.size, i, none⟩ = some (.int .i64 (entry 128 self i)) := fun i hi => by
    rw [hown1.cellAt i (by omega), entries_at 128 self 7 i hi]
  have C1 : Hid (∀ i, i < 7 → w1.cell? ⟨w.heap.size, i, none⟩ = some (.int .i64 (entry 128 self i))) := c1
  clear c1 hown1
  go_wp2_with (first
    | (at_make; refine wpList_make_full _ rfl _ _ 26 rfl w1.heap.size 21 i0 (.int .i32 0) 1 Try.underlying26 hi hz0 hz1 .i64 .i64 _ _ 7 rfl rfl rfl rfl (by rw [hz2]; omega) (by unfold maxLen; omega) (Nat.le_refl _) ?_; intro w0 hown0 hgrow0; rw [cloneAt_zero (fullL self) 7] at hown0))
  have hbel0 : Below w1.heap.size w1 w0 := (Below.refl _ _).grown hgrow0 (Nat.le_refl _) (fun _ h => by cases h)
  clear hgrow0 hi hz0 hz1 hz2
  go_loopw [7] (fun i wr => ∃ j : Nat, j ≤ 7 ∧ i = .int .i64 j ∧ wr.ownsRow w1.heap.size 21 1 (.slice (some ⟨w1.heap.size, 0, none⟩) 7 7) 7 (cloneAt (fullL self) 7 j) ∧ Below w1.heap.size w1 wr) (fun i _ => 7 - (intOf i).toNat)
  case atStart => exact ⟨0, Nat.zero_le _, rfl, hown0, hbel0⟩
  case round =>
    obtain ⟨j, hj, rfl, hown, hbel⟩ := hrel
    by_cases hlt : j < 7
    · have m1 : 0 ≤ entry 128 self j := Int.emod_nonneg _ (by omega)
      have m2 : entry 128 self j < 128 := Int.emod_lt_of_pos _ (by omega)
      have hs := cell_later hbel (C1.out j hlt)
      have hc : wr.cell? ⟨w1.heap.size, j, none⟩ = some (.int .i32 0) := by
        rw [hown.cellAt j (by omega)]; simp [cloneAt, hlt]
      have hf := hown.frozenAt j
      have hst := hown.stored j (.int .i32 ((fullL self).getD j 0))
      rw [cloneAt_set, fullL_at self j hlt] at hst
      have H : Hid _ := hst
      clear hst
      go_wp2
      go_roundw
      case rel => exact ⟨j + 1, by omega, by go_num, H.out.1, hbel.setCell (Nat.le_refl _) _⟩
      case measure => simp [intOf]; omega
    · go_wp2
      go_ret
      obtain rfl : j = 7 := by omega
      exact ⟨_, rfl, fun i hi => by rw [hown.cellAt i (by omega), cloneAt_at (fullL self) 7 i hi], hbel1.trans (hbel.mono hbel1.size)⟩

end Go.Proofs.Qxb6603701a
