/-
  zzItoa (6): the decimal text.
-/
import Derived.Test.Qxb6603729aDoorIdx
import Derived.Test.Qxb6603729aDoorDigits
namespace Go.Proofs.Qxb6603729aDoor
open Go.RowKit

/-- The array behind 24 - m rounds: noughts, then the digits. -/
def cellv (U m j : Nat) : Int := if m ≤ j then (dg U (23 - j) : Int) else 0
def Held (U m B : Nat) (wr : World) : Prop := ∀ j, j < 24 → wr.cell? ⟨B, j, none⟩ = some (.int .u8 (cellv U m j)) ∧ wr.frozen? ⟨B, j, none⟩ = false
def ItoaRel (U : Nat) (w : World) (u i : Value) (wr : World) : Prop :=
  ∃ (m v : Nat), m ≤ 24 ∧ 5 ≤ m ∧ i = .int .i64 m ∧ u = .int .u64 v ∧ Hid (v = U / 10 ^ (24 - m)) ∧ v ≤ 9223372036854775808 ∧ Hid (Held U m w.heap.size wr) ∧ Hid (m = 24 ∨ 0 < U / 10 ^ (24 - m - 1)) ∧ Below w.heap.size w wr

theorem zeros_at (j : Nat) (hj : j < 24) : (#[.int .u8 0, .int .u8 0, .int .u8 0, .int .u8 0, .int .u8 0, .int .u8 0, .int .u8 0, .int .u8 0, .int .u8 0, .int .u8 0, .int .u8 0, .int .u8 0, .int .u8 0, .int .u8 0, .int .u8 0, .int .u8 0, .int .u8 0, .int .u8 0, .int .u8 0, .int .u8 0, .int .u8 0, .int .u8 0, .int .u8 0, .int .u8 0] : Array Value)[j]? = some (.int .u8 0) := by
  have e : (#[.int .u8 0, .int .u8 0, .int .u8 0, .int .u8 0, .int .u8 0, .int .u8 0, .int .u8 0, .int .u8 0, .int .u8 0, .int .u8 0, .int .u8 0, .int .u8 0, .int .u8 0, .int .u8 0, .int .u8 0, .int .u8 0, .int .u8 0, .int .u8 0, .int .u8 0, .int .u8 0, .int .u8 0, .int .u8 0, .int .u8 0, .int .u8 0] : Array Value) = Array.replicate 24 (.int .u8 0) := rfl
  rw [e, Array.getElem?_replicate, if_pos hj]

theorem held_start (U : Nat) (w : World) : Held U 24 w.heap.size (w.alloc (.cells #[.int .u8 0, .int .u8 0, .int .u8 0, .int .u8 0, .int .u8 0, .int .u8 0, .int .u8 0, .int .u8 0, .int .u8 0, .int .u8 0, .int .u8 0, .int .u8 0, .int .u8 0, .int .u8 0, .int .u8 0, .int .u8 0, .int .u8 0, .int .u8 0, .int .u8 0, .int .u8 0, .int .u8 0, .int .u8 0, .int .u8 0, .int .u8 0] 28)) := by
  intro j hj
  have e : cellv U 24 j = 0 := by unfold cellv; rw [if_neg (by omega)]
  rw [e]
  constructor
  · rw [World.cell?_alloc_at _ _ _ _ rfl]
    exact zeros_at j hj
  · rw [frozen?_alloc_cells]
    have e2 : w.heap[(⟨w.heap.size, j, none⟩ : Addr).block]? = none := by simp
    simp [World.frozen?]

theorem held_step {U m B v : Nat} {wr : World} (h : Held U m B wr) (hm : m ≤ 24) (hm1 : 1 ≤ m) (hv : v = U / 10 ^ (24 - m)) :
    Held U (m - 1) B (wr.setCell ⟨B, m - 1, none⟩ (.int .u8 (48 + (v : Int) % 10))) := by
  intro j hj
  obtain ⟨hc, hf⟩ := h j hj
  refine ⟨?_, by rw [World.frozen?_setCell]; exact hf⟩
  by_cases e : j = m - 1
  · subst e
    rw [World.cell?_setCell_same _ _ _ hc]
    have e1 : cellv U (m - 1) (m - 1) = 48 + (v : Int) % 10 := by
      unfold cellv
      rw [if_pos (Nat.le_refl _)]
      have e2 : 23 - (m - 1) = 24 - m := by omega
      rw [e2]
      unfold dg
      rw [← hv]
      omega
    rw [e1]
  · rw [World.cell?_setCell_other _ _ _ _ (by intro h; simp only [Addr.mk.injEq] at h; omega), hc]
    have e1 : cellv U (m - 1) j = cellv U m j := by
      unfold cellv
      by_cases h : m ≤ j
      · rw [if_pos h, if_pos (by omega)]
      · rw [if_neg h, if_neg (by omega)]
    rw [e1]

theorem rel_step {U m v : Nat} {w wr : World} (hm : m ≤ 24) (hm6 : 6 ≤ m) (HV : Hid (v = U / 10 ^ (24 - m))) (hv : v ≤ 9223372036854775808) (hv0 : 0 < v) (HH : Hid (Held U m w.heap.size wr)) (hbel : Below w.heap.size w wr) :
    ItoaRel U w (.int .u64 ((v : Int) / 10)) (.int .i64 ((m : Int) - 1)) (wr.setCell ⟨w.heap.size, m - 1, none⟩ (.int .u8 (48 + (v : Int) % 10))) := by
  refine ⟨m - 1, v / 10, by omega, by omega, by go_num, by go_num, ?_, by omega, held_step HH.out hm (by omega) HV.out, .inr ?_, hbel.setCell (Nat.le_refl _) _⟩
  · have e : 24 - (m - 1) = 24 - m + 1 := by omega
    show v / 10 = U / 10 ^ (24 - (m - 1))
    rw [e, ← next_div, ← HV.out]
  · have e : 24 - (m - 1) - 1 = 24 - m := by omega
    rw [e, ← HV.out]
    exact hv0

/-! ### b[i:], and its text -/
theorem len28 : Tryd.prog.arrayLen 28 = 24 := by kernel_rfl
theorem arr28 : Tryd.prog.underlying 28 = some (.array (Tryd.prog.arrayLen 28) (Tryd.prog.elem 28)) := by kernel_rfl
theorem size28 (w : World) : (sizeOf (Tryd.prog.elem 28)).run Tryd.prog w = .ok 1 w := by kernel_rfl
theorem run_tail (w : World) (B m : Nat) (hm : m < 24) :
    (Instr.sliceAt 28 (.pointer (some ⟨B, 0, none⟩)) (some (.int .i64 (m : Int))) none none).run Tryd.prog w = .ok (.slice (some ⟨B, m, none⟩) (24 - m) (24 - m)) w := by
  rw [run_sliceAt_array_l w 28 ⟨B, 0, none⟩ arr28 .i64 (m : Int) (by omega) (by rw [len28]; omega), size28, len28]
  show Result.ok (slicedAt ⟨B, 0, none⟩ (m : Int).toNat 24 24 1) w = _
  have e : (m : Int).toNat = m := by omega
  rw [e]
  unfold slicedAt
  rw [if_neg (by omega), Nat.mul_one, WideShapes.add_plain, Nat.zero_add]
theorem run_text {w : World} {B m U : Nat} (hm : m < 24) (h : Held U m B w) :
    (convert 29 9 (.slice (some ⟨B, m, none⟩) (24 - m) (24 - m))).run Tryd.prog w = .ok (.string ⟨(lastK U (24 - m)).toArray⟩) w := by
  have hl := lastK_length U (24 - m)
  have c := run_convert_bytes_back (P := Tryd.prog) w 29 9 5 ⟨B, m, none⟩ (24 - m) (lastK U (24 - m)) Tryd.underlying29 Tryd.underlying5 Tryd.underlying9 (fun j hj => by
    rw [WideShapes.add_plain, (h (m + j) (by omega)).1, lastK_at]
    unfold cellv
    rw [if_pos (by omega)]
    have e : 23 - (m + j) = 24 - m - 1 - j := by omega
    rw [e])
  rw [hl] at c
  exact c

/-- What zzItoa hands back at n. -/
def Itoa (n : Int) (e : Ending) : Prop := ∃ t : ByteArray, e = .returned (.string t) ∧ t.size ≤ 1048576 ∧ (0 ≤ n → AIdx t.data.toList n true) ∧ (n < 0 → AIdx t.data.toList 0 false)

theorem itoa_end {U m v : Nat} (hU : 0 < U) (hU2 : U < 9223372036854775808) (hm : m ≤ 24) (hv0 : ¬ 0 < v) (HV : Hid (v = U / 10 ^ (24 - m))) (HP : Hid (m = 24 ∨ 0 < U / 10 ^ (24 - m - 1))) : m < 24 ∧ Itoa (U : Int) (.returned (.string ⟨(lastK U (24 - m)).toArray⟩)) := by
  have hz : U / 10 ^ (24 - m) = 0 := by have := HV.out; omega
  have hm' : m < 24 := by
    by_cases h : m = 24
    · subst h
      rw [Nat.sub_self, Nat.pow_zero, Nat.div_one] at hz
      omega
    · omega
  refine ⟨hm', _, rfl, ?_, fun _ => ?_, fun h => absurd h (by omega)⟩
  · have e : (⟨(lastK U (24 - m)).toArray⟩ : ByteArray).size = (lastK U (24 - m)).length := by
      rw [Lib.size_eq]
    rw [e, lastK_length]
    omega
  · have hlead := lastK_lead (U := U) (k := 24 - m) (by omega) hz (by
      rcases HP.out with h | h
      · omega
      · exact h)
    have hdec := lastK_whole hz
    have := AIdx_yes hlead (lastK_allD U (24 - m)) (by omega)
    rw [hdec] at this
    exact this

set_option maxHeartbeats 1000000 in
theorem itoa_pos (n : Int) (h1 : 0 < n) (h2 : n ≤ 9223372036854775807) (w : World) :
    Calls Tryd.prog 6 #[.int .i64 n] w fun e w' => Itoa n e ∧ Below w.heap.size w w' := by
  have hb : (n == 0) = false := by simp only [beq_eq_false_iff_ne, ne_eq]; omega
  have hd : decide (n < 0) = false := decide_eq_false (by omega)
  obtain ⟨U, hU⟩ : ∃ U : Nat, n = (U : Int) := ⟨n.toNat, by omega⟩
  subst hU
  go_enter Tryd.func6, Tryd.ntmps6
  go_wp2
  go_loopw [4, 6] (fun u i wr => ItoaRel U w u i wr) (fun _ i _ => (intOf i).toNat)
  case atStart => exact ⟨24, U, by omega, by omega, rfl, rfl, by show U = U / 10 ^ 0; rw [Nat.pow_zero, Nat.div_one], by omega, held_start U w, .inl rfl, (Below.refl _ _).alloc (Nat.le_refl _) _⟩
  case round =>
    obtain ⟨m, v, hm, hm5, rfl, rfl, HV, hv, HH, HP, hbel⟩ := hrel
    by_cases hv0 : 0 < v
    · have hm6 : 6 ≤ m := by
        by_cases h : 6 ≤ m
        · exact h
        · have := small19 (U := U) (k := 24 - m) (by omega) (by omega)
          have e := HV.out
          omega
      obtain ⟨hc, hf⟩ := HH.out (m - 1) (by omega)
      go_wp2
      go_roundw
      case rel => exact rel_step hm hm6 HV hv hv0 HH hbel
      case measure => simp [intOf]; omega
    · obtain ⟨hm24, hI⟩ := itoa_end (by omega) (by omega) hm hv0 HV HP
      have HI : Hid (Itoa (U : Int) (.returned (.string ⟨(lastK U (24 - m)).toArray⟩))) := hI
      have hsl := run_tail wr w.heap.size m hm24
      have hcv := run_text hm24 HH.out
      clear hI
      go_wp2
      go_ret
      exact ⟨HI.out, hbel⟩

/-! ### A negative number -/
theorem run_minus {w : World} {B m U : Nat} (hm : m ≤ 24) (hm1 : 1 ≤ m) (h : Held U m B w) :
    (convert 29 9 (.slice (some ⟨B, m - 1, none⟩) (24 - (m - 1)) (24 - (m - 1)))).run Tryd.prog (w.setCell ⟨B, m - 1, none⟩ (.int .u8 45)) = .ok (.string ⟨(45 :: lastK U (24 - m)).toArray⟩) (w.setCell ⟨B, m - 1, none⟩ (.int .u8 45)) := by
  have hl : (45 :: lastK U (24 - m)).length = 24 - (m - 1) := by
    rw [List.length_cons, lastK_length]; omega
  have c := run_convert_bytes_back (P := Tryd.prog) (w.setCell ⟨B, m - 1, none⟩ (.int .u8 45)) 29 9 5 ⟨B, m - 1, none⟩ (24 - (m - 1)) (45 :: lastK U (24 - m)) Tryd.underlying29 Tryd.underlying5 Tryd.underlying9 (fun j hj => by
    rw [WideShapes.add_plain]
    match j, hj with
    | 0, _ =>
      rw [Nat.add_zero, World.cell?_setCell_same _ _ _ (h (m - 1) (by omega)).1]
      rfl
    | j + 1, hj =>
      have e0 : m - 1 + (j + 1) = m + j := by omega
      have hj' : j < (lastK U (24 - m)).length := by
        rw [List.length_cons] at hj; omega
      have hj24 : m + j < 24 := by rw [lastK_length] at hj'; omega
      rw [e0, World.cell?_setCell_other _ _ _ _ (by intro h; simp only [Addr.mk.injEq] at h; omega), (h (m + j) hj24).1]
      have e1 : (45 :: lastK U (24 - m))[j + 1] = (lastK U (24 - m))[j] := rfl
      rw [e1, lastK_at]
      unfold cellv
      rw [if_pos (by omega)]
      have e : 23 - (m + j) = 24 - m - 1 - j := by omega
      rw [e])
  rw [hl] at c
  exact c
theorem itoa_neg_end {n : Int} {U m : Nat} (hn : n < 0) : Itoa n (.returned (.string ⟨(45 :: lastK U (24 - m)).toArray⟩)) := by
  refine ⟨_, rfl, ?_, fun h => absurd h (by omega), fun _ => AIdx_not (minus_not _)⟩
  have e : (⟨(45 :: lastK U (24 - m)).toArray⟩ : ByteArray).size = (45 :: lastK U (24 - m)).length := by
    rw [Lib.size_eq]
  rw [e, List.length_cons, lastK_length]
  omega
theorem wrap_neg (n : Int) (h1 : n < 0) (h2 : -9223372036854775808 ≤ n) : IntKind.u64.wrap (-IntKind.u64.wrap n) = ((-n).toNat : Int) := by
  have e : ∀ x : Int, IntKind.u64.wrap x = x % 18446744073709551616 := fun x => rfl
  rw [e, e]
  omega

set_option maxHeartbeats 1000000 in
theorem itoa_neg (n : Int) (h1 : n < 0) (h2 : -9223372036854775808 ≤ n) (w : World) :
    Calls Tryd.prog 6 #[.int .i64 n] w fun e w' => Itoa n e ∧ Below w.heap.size w w' := by
  have hb : (n == 0) = false := by simp only [beq_eq_false_iff_ne, ne_eq]; omega
  have hd : decide (n < 0) = true := decide_eq_true (by omega)
  obtain ⟨U, hU⟩ : ∃ U : Nat, U = (-n).toNat := ⟨_, rfl⟩
  have hUb : U ≤ 9223372036854775808 := by omega
  have HW : Hid (IntKind.u64.wrap (-IntKind.u64.wrap n) = (U : Int)) := by rw [hU]; exact wrap_neg n h1 h2
  clear hU
  go_enter Tryd.func6, Tryd.ntmps6
  go_wp2
  go_loopw [4, 6] (fun u i wr => ItoaRel U w u i wr) (fun _ i _ => (intOf i).toNat)
  case atStart => exact ⟨24, U, by omega, by omega, rfl, by rw [HW.out], by show U = U / 10 ^ 0; rw [Nat.pow_zero, Nat.div_one], by omega, held_start U w, .inl rfl, (Below.refl _ _).alloc (Nat.le_refl _) _⟩
  case round =>
    obtain ⟨m, v, hm, hm5, rfl, rfl, HV, hv, HH, HP, hbel⟩ := hrel
    by_cases hv0 : 0 < v
    · have hm6 : 6 ≤ m := by
        by_cases h : 6 ≤ m
        · exact h
        · have := small19 (U := U) (k := 24 - m) (by omega) (by omega)
          have e := HV.out
          omega
      obtain ⟨hc, hf⟩ := HH.out (m - 1) (by omega)
      go_wp2
      go_roundw
      case rel => exact rel_step hm hm6 HV hv hv0 HH hbel
      case measure => simp [intOf]; omega
    · have HI : Hid (Itoa n (.returned (.string ⟨(45 :: lastK U (24 - m)).toArray⟩))) := itoa_neg_end h1
      obtain ⟨hc, hf⟩ := HH.out (m - 1) (by omega)
      have hsl := run_tail (wr.setCell ⟨w.heap.size, m - 1, none⟩ (.int .u8 45)) w.heap.size (m - 1) (by omega)
      have em : ((m - 1 : Nat) : Int) = (m : Int) - 1 := by omega
      rw [em] at hsl
      clear em
      have hcv := run_minus hm (by omega) HH.out
      go_wp2
      go_ret
      exact ⟨HI.out, hbel.setCell (Nat.le_refl _) _⟩

set_option maxHeartbeats 400000 in
theorem itoa_zero (w : World) :
    Calls Tryd.prog 6 #[.int .i64 0] w fun e w' => Itoa 0 e ∧ Below w.heap.size w w' := by
  have HI : Hid (Itoa 0 (.returned (.string ⟨#[48]⟩))) := by
    refine ⟨_, rfl, by show 1 ≤ 1048576; omega, fun _ => ?_, fun h => absurd h (by omega)⟩
    have e : decA 0 [48] = 0 := by rw [decA_cons, decA_nil]; rfl
    have hd : AllD [48] := by
      intro c hc
      simp only [List.mem_singleton] at hc
      subst hc
      exact ⟨by decide, by decide⟩
    have hl : ¬ Lead [48] := by
      rintro (h | ⟨_, h⟩)
      · cases h
      · simp at h
    have := AIdx_yes hl hd (by omega)
    rw [e] at this
    exact this
  go_enter Tryd.func6, Tryd.ntmps6
  go_wp2
  go_ret
  exact ⟨HI.out, Below.refl _ _⟩

theorem itoa_any (n : Int) (h1 : -9223372036854775808 ≤ n) (h2 : n ≤ 9223372036854775807) (w : World) :
    Calls Tryd.prog 6 #[.int .i64 n] w fun e w' => Itoa n e ∧ Below w.heap.size w w' := by
  by_cases c1 : n < 0
  · exact itoa_neg n c1 h1 w
  by_cases c2 : n = 0
  · subst c2; exact itoa_zero w
  · exact itoa_pos n (by omega) h2 w
end Go.Proofs.Qxb6603729aDoor
