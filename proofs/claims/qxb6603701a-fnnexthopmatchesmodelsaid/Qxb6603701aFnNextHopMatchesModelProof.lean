/-
  'Rows.FnNextHopMatchesModelSaid' proved: the walk over the contracts of NextHop, cloneInt32s, clockwise (Qxb6603701aHop, Qxb6603701aSmall), the frame by the seat's shell.
-/
import Derived.Test.Qxb6603701aHop
import Derived.WalkKit
import Derived.ProofKit
import Derived.OpenShut
import Derived.ShutString
import Derived.ChangeOld
import Derived.Below
namespace Go.Proofs.Qxb6603701a.fnNextHopMatchesModel
open Go.ChangeShapes Go.WideShapes Go.ChangeAt Go.RowKit
open Go.ChangeMaps (open_string shut_string)
set_option linter.unusedVariables false

theorem own : ownKnob Try.prog.godebug = none := by kernel_rfl
theorem laidOut : laidOutB Try.prog = true := by kernel_rfl

/-- WHAT THE WALK IS TOLD OF A SLICE OF INTEGERS THAT CAME IN: it is nil; or it leads to a row of 'cap' cells, the numbers 'zs' (the first 'len' are its elements, the rest its spare room), each fitting its kind. -/
def IsRow (k : IntKind) (w : World) (a : Option Addr) (len cap : Nat) (zs : List Int) : Prop :=
  (a = none ∧ len = 0 ∧ cap = 0 ∧ zs = []) ∨
  ∃ x, a = some x ∧ len ≤ cap ∧ cap ≤ maxLen ∧ zs.length = cap ∧ (∀ i, i < zs.length → w.cell? (x.add i) = some (.int k (zs.getD i 0))) ∧ ∀ n ∈ zs, (Lit.int k n).wf = true

/-! ### STEP 1: THE WALK -/
set_option maxHeartbeats 400000 in
/-- The list is too long: true by the guard. -/
theorem walk_long (a0 a1 : Int) (a2 : Option Addr) (len cap : Nat) (h : 131072 < len) (w : World) :
    Calls Try.prog 5 #[.int .i32 a0, .int .i32 a1, .slice a2 len cap] w fun e w' => e = .returned (.bool true) ∧ Below w.heap.size w w' := by
  by_cases hb : 1048576 < len
  · go_enter Try.func5, Try.ntmps5
    go_wp2_with (go_at_call 10; refine (zzBytes_no _ _ _ _ _ hb _).mono ?_; rintro e w' ⟨rfl, rfl⟩)
    go_ret
    exact ⟨rfl, Below.refl _ _⟩
  · go_enter Try.func5, Try.ntmps5
    go_wp2_with (go_at_call 10; refine (zzBytes_yes _ _ _ _ _ (by omega) _).mono ?_; rintro e w' ⟨rfl, rfl⟩)
    go_ret
    exact ⟨rfl, Below.refl _ _⟩

theorem hop_nil (a0 a1 : Int) : hop a0 a1 [] = (0, false) := by simp [hop, hopF]

set_option maxHeartbeats 400000 in
theorem walk_nil (a0 a1 : Int) (h0 : -2147483648 ≤ a0) (h0' : a0 ≤ 2147483647) (h1 : -2147483648 ≤ a1) (h1' : a1 ≤ 2147483647) (w : World) :
    Calls Try.prog 5 #[.int .i32 a0, .int .i32 a1, .slice none 0 0] w fun e w' => e = .returned (.bool true) ∧ Below w.heap.size w w' := by
  have N := fun w => nextHop_nil a0 a1 w
  rw [hop_nil] at N
  have HN : Hid (∀ w, Calls Try.prog 12 #[.int .i32 a0, .int .i32 a1, .slice none 0 0] w fun e w' => e = .returned (.tuple #[.int .i32 0, .bool false]) ∧ w' = w) := N
  clear N
  go_enter Try.func5, Try.ntmps5
  go_wp2_with (first
    | (go_at_call 10; refine (zzBytes_yes _ _ _ _ _ (by omega) _).mono ?_; rintro e w' ⟨rfl, rfl⟩)
    | (go_at_call 11; refine (clone_nil _).mono ?_; rintro e w' ⟨rfl, rfl⟩)
    | (go_at_call 12; refine (HN.out _).mono ?_; rintro e w' ⟨rfl, rfl⟩))
  go_loop [9] (fun i => i = .int .i64 0) (fun _ => 0)
  case atStart => rfl
  case round =>
    subst hrel
    go_wp2_with (go_at_call 13; refine (clockwise_any _ _ h0 h0' h1 h1' _).mono ?_; rintro e w' ⟨rfl, rfl⟩)
    go_loop [11, 12] (fun m i => m = .int .i64 0 ∧ i = .int .i64 0) (fun _ _ => 0)
    case atStart => exact ⟨rfl, rfl⟩
    case round =>
      obtain ⟨rfl, rfl⟩ := hrel
      go_wp2
      go_ret
      exact ⟨rfl, Below.refl _ _⟩

set_option maxHeartbeats 400000 in
/-- The sink is among the entries. -/
theorem walk_hit (a0 a1 : Int) (x : Addr) (len cap : Nat) (es : List Int) (hl : es.length = len) (hm : len ≤ 131072) (w : World)
    (hc : ∀ i, i < len → w.cell? (x.add i) = some (.int .i32 (es.getD i 0))) (t : Nat) (ht : t < len) (hs : es.getD t 0 = a1) :
    Calls Try.prog 5 #[.int .i32 a0, .int .i32 a1, .slice (some x) len cap] w fun e w' => e = .returned (.bool true) ∧ Below w.heap.size w w' := by
  have R := hop_hit (self := a0) (sink := a1) (l := es) t (by omega) hs
  have N := fun w' hc' => nextHop_row a0 a1 w.heap.size len len es hl (by omega) w' hc'
  rw [R] at N
  have HN : Hid (∀ w', (∀ i, i < len → w'.cell? ⟨w.heap.size, i, none⟩ = some (.int .i32 (es.getD i 0))) → Calls Try.prog 12 #[.int .i32 a0, .int .i32 a1, .slice (some ⟨w.heap.size, 0, none⟩) len len] w' fun e w'' => e = .returned (.tuple #[.int .i32 a1, .bool true]) ∧ w'' = w') := N
  have HC : Hid (∀ i, i < len → w.cell? (x.add i) = some (.int .i32 (es.getD i 0))) := hc
  have HS : Hid (es.getD t 0 = a1) := hs
  clear N R hl hc hs
  go_enter Try.func5, Try.ntmps5
  go_wp2_with (go_at_call 10; refine (zzBytes_yes _ _ _ _ _ (by omega) _).mono ?_; rintro e w' ⟨rfl, hw⟩; obtain rfl := hw.symm)
  refine (clone_row x len cap es hm _ HC.out).mono ?_
  rintro e w1 ⟨rfl, hc1, hbel⟩
  have HC1 : Hid (∀ i, i < len → w1.cell? ⟨w.heap.size, i, none⟩ = some (.int .i32 (es.getD i 0))) := hc1
  clear hc1
  go_wp2_with (go_at_call 12; refine (HN.out _ HC1.out).mono ?_; rintro e w' ⟨rfl, hw⟩; obtain rfl := hw.symm)
  go_loop [9] (fun i => ∃ k : Nat, k ≤ t ∧ i = .int .i64 k) (fun i => len - (intOf i).toNat)
  case atStart => exact ⟨0, Nat.zero_le _, rfl⟩
  case round =>
    obtain ⟨k, hk, rfl⟩ := hrel
    have hcell := HC1.out k (by omega)
    obtain ⟨e, he⟩ : ∃ e, e = es.getD k 0 := ⟨_, rfl⟩
    rw [← he] at hcell
    have HE : Hid (e = es.getD k 0) := he
    clear he
    have hlt' : (k : Int) < (len : Int) := by omega
    by_cases hb : (e == a1) = true
    · go_wp2
      go_ret
      exact ⟨rfl, hbel⟩
    · have hb' : (e == a1) = false := by simpa using hb
      have hkt : k ≠ t := fun h => hb (by subst h; rw [HE.out, HS.out]; simp)
      clear hb
      go_wp2
      go_round
      case rel => exact ⟨k + 1, by omega, by go_num⟩
      case measure => simp [intOf]; omega

set_option maxHeartbeats 1000000 in
/-- It is not, and no entry serves. -/
theorem walk_none (a0 a1 : Int) (h0 : -2147483648 ≤ a0) (h0' : a0 ≤ 2147483647) (h1 : -2147483648 ≤ a1) (h1' : a1 ≤ 2147483647) (x : Addr) (len cap : Nat) (es : List Int) (hl : es.length = len) (hm : len ≤ 131072) (w : World)
    (hc : ∀ i, i < len → w.cell? (x.add i) = some (.int .i32 (es.getD i 0))) (hw : ∀ i, i < len → -2147483648 ≤ es.getD i 0 ∧ es.getD i 0 ≤ 2147483647) (hs : ∀ t, t < len → es.getD t 0 ≠ a1)
    (hF : hopF a0 ((a1 - a0) % 128) (es.take len) = (0, 0, false)) :
    Calls Try.prog 5 #[.int .i32 a0, .int .i32 a1, .slice (some x) len cap] w fun e w' => e = .returned (.bool true) ∧ Below w.heap.size w w' := by
  have R := hop_miss (self := a0) (sink := a1) (l := es) (by rw [hl]; exact hs)
  rw [hl, hF] at R
  have N := fun w' hc' => nextHop_row a0 a1 w.heap.size len len es hl (by omega) w' hc'
  rw [R] at N
  have HN : Hid (∀ w', (∀ i, i < len → w'.cell? ⟨w.heap.size, i, none⟩ = some (.int .i32 (es.getD i 0))) → Calls Try.prog 12 #[.int .i32 a0, .int .i32 a1, .slice (some ⟨w.heap.size, 0, none⟩) len len] w' fun e w'' => e = .returned (.tuple #[.int .i32 0, .bool false]) ∧ w'' = w') := N
  have HC : Hid (∀ i, i < len → w.cell? (x.add i) = some (.int .i32 (es.getD i 0))) := hc
  have HS : Hid (∀ t, t < len → es.getD t 0 ≠ a1) := hs
  have HF : Hid (hopF a0 ((a1 - a0) % 128) (es.take len) = (0, 0, false)) := hF
  have HL : Hid (es.length = len) := hl
  have HW : Hid (∀ i, i < len → -2147483648 ≤ es.getD i 0 ∧ es.getD i 0 ≤ 2147483647) := hw
  clear N R hl hc hs hF hw
  go_enter Try.func5, Try.ntmps5
  go_wp2_with (go_at_call 10; refine (zzBytes_yes _ _ _ _ _ (by omega) _).mono ?_; rintro e w' ⟨rfl, hw⟩; obtain rfl := hw.symm)
  refine (clone_row x len cap es hm _ HC.out).mono ?_
  rintro e w1 ⟨rfl, hc1, hbel⟩
  have HC1 : Hid (∀ i, i < len → w1.cell? ⟨w.heap.size, i, none⟩ = some (.int .i32 (es.getD i 0))) := hc1
  clear hc1
  go_wp2_with (go_at_call 12; refine (HN.out _ HC1.out).mono ?_; rintro e w' ⟨rfl, hw⟩; obtain rfl := hw.symm)
  go_loop [9] (fun i => ∃ k : Nat, k ≤ len ∧ i = .int .i64 k) (fun i => len - (intOf i).toNat)
  case atStart => exact ⟨0, Nat.zero_le _, rfl⟩
  case round =>
    obtain ⟨k, hk, rfl⟩ := hrel
    by_cases hlt : k < len
    · have hcell := HC1.out k hlt
      have hb : (es.getD k 0 == a1) = false := by simpa using HS.out k hlt
      obtain ⟨e, he⟩ : ∃ e, e = es.getD k 0 := ⟨_, rfl⟩
      rw [← he] at hcell hb
      clear he
      have hlt' : (k : Int) < (len : Int) := by omega
      go_wp2
      go_round
      case rel => exact ⟨k + 1, by omega, by go_num⟩
      case measure => simp [intOf]; omega
    · go_wp2_with (go_at_call 13; refine (clockwise_any _ _ h0 h0' h1 h1' _).mono ?_; rintro e w' ⟨rfl, hw⟩; obtain rfl := hw.symm)
      clear hlt hk
      go_loop [11, 12] (fun m i => ∃ (k : Nat) (u y : Int) (z : Bool), k ≤ len ∧ m = .int .i64 y ∧ i = .int .i64 k ∧ 0 ≤ y ∧ hopF a0 ((a1 - a0) % 128) (es.take k) = (u, y, z)) (fun _ i => len - (intOf i).toNat)
      case atStart => exact ⟨0, 0, 0, false, Nat.zero_le _, rfl, rfl, Int.le_refl _, rfl⟩
      case round =>
        obtain ⟨k, u, y, z, hk, rfl, rfl, hy, hF⟩ := hrel
        have HX0 : Hid (hopF a0 ((a1 - a0) % 128) (es.take k) = (u, y, z)) := hF
        clear hF
        by_cases hlt : k < len
        · have hcell := HC1.out k hlt
          have hbd := HW.out k hlt
          have HX : Hid (hopF a0 ((a1 - a0) % 128) (es.take (k + 1)) = hopStep a0 ((a1 - a0) % 128) (u, y, z) (es.getD k 0)) := by
            have h := hopF_next a0 ((a1 - a0) % 128) es k (by rw [HL.out]; exact hlt)
            rw [HX0.out] at h
            exact h
          obtain ⟨e, he⟩ : ∃ e, e = es.getD k 0 := ⟨_, rfl⟩
          rw [← he] at hcell hbd HX
          clear he
          obtain ⟨hb1, hb2⟩ := hbd
          have hlt' : (k : Int) < (len : Int) := by omega
          have hnn : 0 ≤ (e - a0) % 128 := Int.emod_nonneg _ (by omega)
          by_cases c2 : (e - a0) % 128 < (a1 - a0) % 128
          · by_cases c3 : y < (e - a0) % 128
            · have c1 : 0 < (e - a0) % 128 := by omega
              go_wp2_with (go_at_call 13; refine (clockwise_any _ _ h0 h0' hb1 hb2 _).mono ?_; rintro e w' ⟨rfl, hw⟩; obtain rfl := hw.symm)
              go_round
              case rel => exact ⟨k + 1, _, _, _, by omega, rfl, by go_num, by omega, by rw [HX.out, hopStep_yes c2 c3]⟩
              case measure => simp [intOf]; omega
            · by_cases c1 : 0 < (e - a0) % 128
              · go_wp2_with (go_at_call 13; refine (clockwise_any _ _ h0 h0' hb1 hb2 _).mono ?_; rintro e w' ⟨rfl, hw⟩; obtain rfl := hw.symm)
                go_round
                case rel => exact ⟨k + 1, _, _, _, by omega, rfl, by go_num, by omega, by rw [HX.out, hopStep_no2 (by omega)]⟩
                case measure => simp [intOf]; omega
              · go_wp2_with (go_at_call 13; refine (clockwise_any _ _ h0 h0' hb1 hb2 _).mono ?_; rintro e w' ⟨rfl, hw⟩; obtain rfl := hw.symm)
                go_round
                case rel => exact ⟨k + 1, _, _, _, by omega, rfl, by go_num, by omega, by rw [HX.out, hopStep_no2 (by omega)]⟩
                case measure => simp [intOf]; omega
          · by_cases c1 : 0 < (e - a0) % 128
            · go_wp2_with (go_at_call 13; refine (clockwise_any _ _ h0 h0' hb1 hb2 _).mono ?_; rintro e w' ⟨rfl, hw⟩; obtain rfl := hw.symm)
              go_round
              case rel => exact ⟨k + 1, _, _, _, by omega, rfl, by go_num, by omega, by rw [HX.out, hopStep_no1 (by omega)]⟩
              case measure => simp [intOf]; omega
            · go_wp2_with (go_at_call 13; refine (clockwise_any _ _ h0 h0' hb1 hb2 _).mono ?_; rintro e w' ⟨rfl, hw⟩; obtain rfl := hw.symm)
              go_round
              case rel => exact ⟨k + 1, _, _, _, by omega, rfl, by go_num, by omega, by rw [HX.out, hopStep_no1 (by omega)]⟩
              case measure => simp [intOf]; omega
        · obtain rfl : k = len := by omega
          have e1 := HF.out
          rw [HX0.out] at e1
          simp only [Prod.mk.injEq] at e1
          obtain ⟨rfl, rfl, rfl⟩ := e1
          go_wp2
          go_ret
          exact ⟨rfl, hbel⟩

set_option maxHeartbeats 1000000 in
/-- It is not, and the entry at t serves. -/
theorem walk_found (a0 a1 : Int) (h0 : -2147483648 ≤ a0) (h0' : a0 ≤ 2147483647) (h1 : -2147483648 ≤ a1) (h1' : a1 ≤ 2147483647) (x : Addr) (len cap : Nat) (es : List Int) (hl : es.length = len) (hm : len ≤ 131072) (w : World)
    (hc : ∀ i, i < len → w.cell? (x.add i) = some (.int .i32 (es.getD i 0))) (hw : ∀ i, i < len → -2147483648 ≤ es.getD i 0 ∧ es.getD i 0 ≤ 2147483647) (hs : ∀ t, t < len → es.getD t 0 ≠ a1)
    (X Y : Int) (hF : hopF a0 ((a1 - a0) % 128) (es.take len) = (X, Y, true)) (hY : 0 < Y) (t : Nat) (ht : t < len) (hX : es.getD t 0 = X) (hD : (es.getD t 0 - a0) % 128 = Y) (hfst : ∀ u, u < t → (es.getD u 0 - a0) % 128 ≠ Y) :
    Calls Try.prog 5 #[.int .i32 a0, .int .i32 a1, .slice (some x) len cap] w fun e w' => e = .returned (.bool true) ∧ Below w.heap.size w w' := by
  have R := hop_miss (self := a0) (sink := a1) (l := es) (by rw [hl]; exact hs)
  rw [hl, hF] at R
  have N := fun w' hc' => nextHop_row a0 a1 w.heap.size len len es hl (by omega) w' hc'
  rw [R] at N
  have HN : Hid (∀ w', (∀ i, i < len → w'.cell? ⟨w.heap.size, i, none⟩ = some (.int .i32 (es.getD i 0))) → Calls Try.prog 12 #[.int .i32 a0, .int .i32 a1, .slice (some ⟨w.heap.size, 0, none⟩) len len] w' fun e w'' => e = .returned (.tuple #[.int .i32 X, .bool true]) ∧ w'' = w') := N
  have HC : Hid (∀ i, i < len → w.cell? (x.add i) = some (.int .i32 (es.getD i 0))) := hc
  have HS : Hid (∀ t, t < len → es.getD t 0 ≠ a1) := hs
  have HF : Hid (hopF a0 ((a1 - a0) % 128) (es.take len) = (X, Y, true)) := hF
  have HX' : Hid (es.getD t 0 = X) := hX
  have HD : Hid ((es.getD t 0 - a0) % 128 = Y) := hD
  have HT : Hid (∀ u, u < t → (es.getD u 0 - a0) % 128 ≠ Y) := hfst
  have HL : Hid (es.length = len) := hl
  have HW : Hid (∀ i, i < len → -2147483648 ≤ es.getD i 0 ∧ es.getD i 0 ≤ 2147483647) := hw
  clear N R hl hc hs hF hw hX hD hfst
  go_enter Try.func5, Try.ntmps5
  go_wp2_with (go_at_call 10; refine (zzBytes_yes _ _ _ _ _ (by omega) _).mono ?_; rintro e w' ⟨rfl, hw⟩; obtain rfl := hw.symm)
  refine (clone_row x len cap es hm _ HC.out).mono ?_
  rintro e w1 ⟨rfl, hc1, hbel⟩
  have HC1 : Hid (∀ i, i < len → w1.cell? ⟨w.heap.size, i, none⟩ = some (.int .i32 (es.getD i 0))) := hc1
  clear hc1
  go_wp2_with (go_at_call 12; refine (HN.out _ HC1.out).mono ?_; rintro e w' ⟨rfl, hw⟩; obtain rfl := hw.symm)
  go_loop [9] (fun i => ∃ k : Nat, k ≤ len ∧ i = .int .i64 k) (fun i => len - (intOf i).toNat)
  case atStart => exact ⟨0, Nat.zero_le _, rfl⟩
  case round =>
    obtain ⟨k, hk, rfl⟩ := hrel
    by_cases hlt : k < len
    · have hcell := HC1.out k hlt
      have hb : (es.getD k 0 == a1) = false := by simpa using HS.out k hlt
      obtain ⟨e, he⟩ : ∃ e, e = es.getD k 0 := ⟨_, rfl⟩
      rw [← he] at hcell hb
      clear he
      have hlt' : (k : Int) < (len : Int) := by omega
      go_wp2
      go_round
      case rel => exact ⟨k + 1, by omega, by go_num⟩
      case measure => simp [intOf]; omega
    · go_wp2_with (go_at_call 13; refine (clockwise_any _ _ h0 h0' h1 h1' _).mono ?_; rintro e w' ⟨rfl, hw⟩; obtain rfl := hw.symm)
      clear hlt hk
      go_loop [11, 12] (fun m i => ∃ (k : Nat) (u y : Int) (z : Bool), k ≤ len ∧ m = .int .i64 y ∧ i = .int .i64 k ∧ 0 ≤ y ∧ hopF a0 ((a1 - a0) % 128) (es.take k) = (u, y, z)) (fun _ i => len - (intOf i).toNat)
      case atStart => exact ⟨0, 0, 0, false, Nat.zero_le _, rfl, rfl, Int.le_refl _, rfl⟩
      case round =>
        obtain ⟨k, u, y, z, hk, rfl, rfl, hy, hF⟩ := hrel
        have HX0 : Hid (hopF a0 ((a1 - a0) % 128) (es.take k) = (u, y, z)) := hF
        clear hF
        by_cases hlt : k < len
        · have hcell := HC1.out k hlt
          have hbd := HW.out k hlt
          have HX : Hid (hopF a0 ((a1 - a0) % 128) (es.take (k + 1)) = hopStep a0 ((a1 - a0) % 128) (u, y, z) (es.getD k 0)) := by
            have h := hopF_next a0 ((a1 - a0) % 128) es k (by rw [HL.out]; exact hlt)
            rw [HX0.out] at h
            exact h
          obtain ⟨e, he⟩ : ∃ e, e = es.getD k 0 := ⟨_, rfl⟩
          rw [← he] at hcell hbd HX
          clear he
          obtain ⟨hb1, hb2⟩ := hbd
          have hlt' : (k : Int) < (len : Int) := by omega
          have hnn : 0 ≤ (e - a0) % 128 := Int.emod_nonneg _ (by omega)
          by_cases c2 : (e - a0) % 128 < (a1 - a0) % 128
          · by_cases c3 : y < (e - a0) % 128
            · have c1 : 0 < (e - a0) % 128 := by omega
              go_wp2_with (go_at_call 13; refine (clockwise_any _ _ h0 h0' hb1 hb2 _).mono ?_; rintro e w' ⟨rfl, hw⟩; obtain rfl := hw.symm)
              go_round
              case rel => exact ⟨k + 1, _, _, _, by omega, rfl, by go_num, by omega, by rw [HX.out, hopStep_yes c2 c3]⟩
              case measure => simp [intOf]; omega
            · by_cases c1 : 0 < (e - a0) % 128
              · go_wp2_with (go_at_call 13; refine (clockwise_any _ _ h0 h0' hb1 hb2 _).mono ?_; rintro e w' ⟨rfl, hw⟩; obtain rfl := hw.symm)
                go_round
                case rel => exact ⟨k + 1, _, _, _, by omega, rfl, by go_num, by omega, by rw [HX.out, hopStep_no2 (by omega)]⟩
                case measure => simp [intOf]; omega
              · go_wp2_with (go_at_call 13; refine (clockwise_any _ _ h0 h0' hb1 hb2 _).mono ?_; rintro e w' ⟨rfl, hw⟩; obtain rfl := hw.symm)
                go_round
                case rel => exact ⟨k + 1, _, _, _, by omega, rfl, by go_num, by omega, by rw [HX.out, hopStep_no2 (by omega)]⟩
                case measure => simp [intOf]; omega
          · by_cases c1 : 0 < (e - a0) % 128
            · go_wp2_with (go_at_call 13; refine (clockwise_any _ _ h0 h0' hb1 hb2 _).mono ?_; rintro e w' ⟨rfl, hw⟩; obtain rfl := hw.symm)
              go_round
              case rel => exact ⟨k + 1, _, _, _, by omega, rfl, by go_num, by omega, by rw [HX.out, hopStep_no1 (by omega)]⟩
              case measure => simp [intOf]; omega
            · go_wp2_with (go_at_call 13; refine (clockwise_any _ _ h0 h0' hb1 hb2 _).mono ?_; rintro e w' ⟨rfl, hw⟩; obtain rfl := hw.symm)
              go_round
              case rel => exact ⟨k + 1, _, _, _, by omega, rfl, by go_num, by omega, by rw [HX.out, hopStep_no1 (by omega)]⟩
              case measure => simp [intOf]; omega
        · obtain rfl : k = len := by omega
          have e1 := HF.out
          rw [HX0.out] at e1
          simp only [Prod.mk.injEq] at e1
          obtain ⟨rfl, rfl, rfl⟩ := e1
          go_wp2
          go_loop [14] (fun i => ∃ q : Nat, q ≤ t ∧ i = .int .i64 q) (fun i => k - (intOf i).toNat)
          case atStart => exact ⟨0, Nat.zero_le _, rfl⟩
          case round =>
            obtain ⟨q, hq, rfl⟩ := hrel
            have hlq : q < k := by omega
            have hcell := HC1.out q hlq
            have hbd := HW.out q hlq
            obtain ⟨e, he⟩ : ∃ e, e = es.getD q 0 := ⟨_, rfl⟩
            rw [← he] at hcell hbd
            have HE : Hid (e = es.getD q 0) := he
            clear he
            obtain ⟨hb1, hb2⟩ := hbd
            have hlt' : (q : Int) < (k : Int) := by omega
            by_cases hqt : q = t
            · have g1 : ((e - a0) % 128 == y) = true := by rw [HE.out, hqt, HD.out]; simp
              have g2 : (u == e) = true := by rw [HE.out, hqt, HX'.out]; simp
              clear hqt
              go_wp2_with (go_at_call 13; refine (clockwise_any _ _ h0 h0' hb1 hb2 _).mono ?_; rintro e w' ⟨rfl, hw⟩; obtain rfl := hw.symm)
              go_ret
              exact ⟨rfl, hbel⟩
            · have g1 : ((e - a0) % 128 == y) = false := by
                have := HT.out q (by omega)
                rw [← HE.out] at this
                simpa using this
              go_wp2_with (go_at_call 13; refine (clockwise_any _ _ h0 h0' hb1 hb2 _).mono ?_; rintro e w' ⟨rfl, hw⟩; obtain rfl := hw.symm)
              go_round
              case rel => exact ⟨q + 1, by omega, by go_num⟩
              case measure => simp [intOf]; omega

theorem wf_at {zs : List Int} (h : ∀ n ∈ zs, (Lit.int .i32 n).wf = true) (i : Nat) : -2147483648 ≤ zs.getD i 0 ∧ zs.getD i 0 ≤ 2147483647 := by
  by_cases hi : i < zs.length
  · have e : zs.getD i 0 = zs[i] := by simp [List.getD, hi]
    rw [e]; exact bounds_i32 (h _ (List.getElem_mem hi))
  · have e : zs.getD i 0 = 0 := by simp [List.getD, Nat.le_of_not_lt hi]
    rw [e]; omega
theorem take_getD {zs : List Int} {n i : Nat} (h : i < n) : (zs.take n).getD i 0 = zs.getD i 0 := by
  simp [List.getD, h]

theorem walk (a0 : Int) (a1 : Int) (a2 : Option Addr) (len2 cap2 : Nat) (z2 : List Int) (w : World) (w0 : (Lit.int .i32 a0).wf = true) (w1 : (Lit.int .i32 a1).wf = true) (w2 : IsRow .i32 w a2 len2 cap2 z2) :
    Calls Try.prog 5 #[.int .i32 a0, .int .i32 a1, .slice a2 len2 cap2] w fun e w' => e = .returned (.bool true) ∧ Below w.heap.size w w' := by
  have b0 := bounds_i32 w0
  have b1 := bounds_i32 w1
  rcases w2 with ⟨rfl, rfl, rfl, rfl⟩ | ⟨x, rfl, hl, hm, hz, hc, hwf⟩
  · exact walk_nil a0 a1 b0.1 b0.2 b1.1 b1.2 w
  by_cases hlen : 131072 < len2
  · exact walk_long a0 a1 _ len2 cap2 hlen w
  obtain ⟨es, he⟩ : ∃ es, es = z2.take len2 := ⟨_, rfl⟩
  have hel : es.length = len2 := by rw [he, List.length_take]; omega
  have hge : ∀ i, i < len2 → es.getD i 0 = z2.getD i 0 := fun i hi => by rw [he, take_getD hi]
  have hce : ∀ i, i < len2 → w.cell? (x.add i) = some (.int .i32 (es.getD i 0)) := fun i hi => by
    rw [hge i hi]; exact hc i (by omega)
  have hwe : ∀ i, i < len2 → -2147483648 ≤ es.getD i 0 ∧ es.getD i 0 ≤ 2147483647 := fun i hi => by
    rw [hge i hi]; exact wf_at hwf i
  by_cases hs : ∃ t, t < len2 ∧ es.getD t 0 = a1
  · obtain ⟨t, ht, hs⟩ := hs
    exact walk_hit a0 a1 x len2 cap2 es hel (by omega) w hce t ht hs
  have hs' : ∀ t, t < len2 → es.getD t 0 ≠ a1 := fun t ht h => hs ⟨t, ht, h⟩
  rcases (hopF_inv a0 ((a1 - a0) % 128) es len2 (by omega)).2 with h | ⟨h1, h2, t, ht, hX, hD, _, hfst⟩
  · exact walk_none a0 a1 b0.1 b0.2 b1.1 b1.2 x len2 cap2 es hel (by omega) w hce hwe hs' h
  · exact walk_found a0 a1 b0.1 b0.2 b1.1 b1.2 x len2 cap2 es hel (by omega) w hce hwe hs' _ _ (by rw [← h2]) h1 t ht hX hD hfst

/-! ### THE ROW's STEP: WRITTEN OUT: LEAVE IT -/
set_option maxRecDepth 100000 in
theorem lifted (os : Os) (started : os.Started) (H : Type) (enc : TypeId × Value → H) :
    ReturnsInHanded {} Try.checked os 5 .any (Rows.fnNextHopMatchesModelSpec.pre6 enc Try.prog Try.f5 Rows.fnNextHopMatchesModelRow.domain false) (Rows.fnNextHopMatchesModelSpec.post enc Try.prog Try.f5 false true false false) := by
  refine returnsInHanded_of_change (C := Try.checked) own started (by kernel_rfl) Try.func5
    (ChangeSpec.witness6 (enc := enc) (C := Try.checked) false ⟨#[], #[.int .i32 0, .int .i32 0, .slice none 0 0], []⟩ 8 (by kernel_rfl) (by kernel_rfl) (by kernel_rfl) (by kernel_rfl)) ?_
  intro W base args ds gs before hval0 hW hcnd _
  have hval : ∀ (j : Nat) t v, Try.f5.params[j]? = some t → args[j]? = some v → Value.okWide Try.prog W .any base t v := hval0
  have hW' := hW
  obtain ⟨p, q, hA0, hV, rfl, hfz, hnd⟩ := hW
  have hA : DataW.TrodAll enc Try.prog W 0 (fun _ => true) true Try.f5.params.toList args.toList ds p := hA0
  rw [Try.params5] at hA hval
  obtain ⟨v0, vs0, d0, ds0, p0, q0, hargs, rfl, rfl, h0, r0⟩ := trodAll_cons hA
  obtain ⟨v1, vs1, d1, ds1, p1, q1, rfl, rfl, rfl, h1, r1⟩ := trodAll_cons r0
  obtain ⟨v2, vs2, d2, ds2, p2, q2, rfl, rfl, rfl, h2, r2⟩ := trodAll_cons r1
  obtain ⟨rfl, rfl, rfl⟩ := trodAll_nil r2
  obtain rfl : args = #[v0, v1, v2] := by cases args; simp_all
  obtain ⟨rfl, rfl⟩ := trodVars_none hV
  obtain ⟨a0, rfl, rfl, rfl, w0⟩ := open_int Try.underlying21 (hval 0 21 v0 rfl rfl) h0
  obtain ⟨a1, rfl, rfl, rfl, w1⟩ := open_int Try.underlying21 (hval 1 21 v1 rfl rfl) h1
  obtain ⟨a2, len2, cap2, rfl⟩ := okWide_slice Try.underlying26 (hval 2 26 v2 rfl rfl)
  have k2 := h2
  have lt2 : ∀ x ∈ p2, x.block < W.heap.size := by obtain ⟨m, hm⟩ := k2; exact DataW.trod_lt m _ _ _ hm
  obtain ⟨z2, w2⟩ : ∃ zs, IsRow .i32 W a2 len2 cap2 zs := by
    obtain ⟨fuel, hf⟩ := h2
    rcases open_ints Try.underlying26 Try.underlying21 (by kernel_rfl) hf with ⟨hcs, _⟩ | ⟨x, l, c, zs, hcs, _, hl, hm, hz, _, hcell, hwz⟩
    · simp [Value.cells] at hcs
      obtain ⟨rfl, rfl, rfl⟩ := hcs
      exact ⟨[], .inl ⟨rfl, rfl, rfl, rfl⟩⟩
    · simp [Value.cells] at hcs
      obtain ⟨rfl, rfl, rfl⟩ := hcs
      exact ⟨zs, .inr ⟨_, rfl, hl, hm, by simpa using hz, hcell, hwz⟩⟩
  clear hA0 hval0
  refine (walk a0 a1 a2 len2 cap2 z2 W w0 w1 w2).mono fun e W' ⟨he, bel⟩ => ?_
  subst he
  exact ⟨_, rfl, _, _, _, [], _, [], hW', trodAll_mk1 (shut_bool Try.underlying4 _), (trodAll_cons_mk (shut_int Try.underlying21 w0) (trodAll_cons_mk (shut_int Try.underlying21 w1) (trodAll_cons_mk (Below.trod laidOut (by kernel_rfl) (of_decide_eq_true (by kernel_rfl)) k2 bel lt2) trodAll_mk0))), rfl, bel.frame _, fun h => by cases h⟩

theorem over : Rows.fnNextHopMatchesModelRow.holds Try.pinned (OpenSpec.ofChange Rows.fnNextHopMatchesModelSpec) :=
  OpenClaim.holds_of_wide 5 Try.f5 rfl rfl rfl rfl rfl rfl rfl ⟨rfl, rfl, rfl, rfl, rfl⟩ rfl rfl rfl rfl rfl (by kernel_rfl) Try.func5 (by kernel_rfl)
    (of_decide_eq_true (by kernel_rfl)) (by unfold Func.isWrapper; first | (rw [if_pos (by decide +kernel)]; kernel_rfl) | (rw [if_neg (by decide +kernel)]; exact ⟨rfl, rfl⟩))
    (fun os started H enc _ => lifted os started H enc)

/-- ████ THE STATEMENT ████ -/
theorem proved : Rows.FnNextHopMatchesModelSaid := over
#print axioms proved
end Go.Proofs.Qxb6603701a.fnNextHopMatchesModel
