/-
  THE SMALL CALLEES of seat b6603701a: addMod (9), clockwise (13), Distance (16), ringBits (14): what each call computes.
-/
import Derived.Test.Qxb6603701aRows
import Derived.WalkKit
import Derived.WalkSpells
import Derived.WalkLawsBesides
namespace Go.Proofs.Qxb6603701a
open Go.RowKit

theorem ret_int {k : IntKind} {a b : Int} (h : a = b) : Ending.returned (.int k a) = .returned (.int k b) := by rw [h]

/-! ### addMod: (a + b) mod n -/
theorem addMod_plain (a b n : Int) (ha : 0 ≤ a) (ha2 : a < n) (hb : 0 ≤ b) (hb2 : b < n) :
    (n - b ≤ a → a - (n - b) = (a + b) % n) ∧ (¬ n - b ≤ a → a + b = (a + b) % n) := by
  constructor
  · intro h
    have e : a + b = (a - (n - b)) + n := by omega
    rw [e, Int.add_emod_right, Int.emod_eq_of_lt (by omega) (by omega)]
  · intro h
    rw [Int.emod_eq_of_lt (by omega) (by omega)]

set_option maxHeartbeats 400000 in
theorem addMod_any (a b n : Int) (ha : 0 ≤ a) (ha2 : a < n) (hb : 0 ≤ b) (hb2 : b < n) (hn : n ≤ 9223372036854775807) (w : World) :
    Calls Try.prog 9 #[.int .i64 a, .int .i64 b, .int .i64 n] w fun e w' => e = .returned (.int .i64 ((a + b) % n)) ∧ w' = w := by
  have hp := addMod_plain a b n ha ha2 hb hb2
  have H : Hid ((n - b ≤ a → a - (n - b) = (a + b) % n) ∧ (¬ n - b ≤ a → a + b = (a + b) % n)) := hp
  clear hp
  by_cases h : n - b ≤ a
  · go_enter Try.func9, Try.ntmps9
    go_wp2
    go_ret
    exact ⟨ret_int (H.out.1 h), rfl⟩
  · go_enter Try.func9, Try.ntmps9
    go_wp2
    go_ret
    exact ⟨ret_int (H.out.2 h), rfl⟩

/-! ### clockwise and Distance: (b - a) mod 128 -/
theorem tmod128 (x : Int) : x.tmod 128 = x % 128 - if 0 ≤ x ∨ (128 : Int) ∣ x then 0 else 128 := by
  rw [Int.tmod_eq_emod]; split <;> rfl
theorem clock_neg (x : Int) (h : x.tmod 128 < 0) : wrap64 (x.tmod 128 + 128) = x % 128 := by
  have e := tmod128 x
  unfold wrap64
  split at e <;> omega
theorem clock_pos (x : Int) (h : 0 ≤ x.tmod 128) : x.tmod 128 = x % 128 := by
  have e := tmod128 x
  split at e <;> omega
theorem dist_plain (x : Int) : (wrap32 ((wrap32 x).tmod 128 + 128)).tmod 128 = x % 128 := by
  have e := tmod128 (wrap32 x)
  have e2 := tmod128 (wrap32 ((wrap32 x).tmod 128 + 128))
  unfold wrap32 at *
  split at e <;> split at e2 <;> omega

set_option maxHeartbeats 400000 in
theorem clockwise_any (a b : Int) (ha : -2147483648 ≤ a) (ha2 : a ≤ 2147483647) (hb : -2147483648 ≤ b) (hb2 : b ≤ 2147483647) (w : World) :
    Calls Try.prog 13 #[.int .i32 a, .int .i32 b] w fun e w' => e = .returned (.int .i64 ((b - a) % 128)) ∧ w' = w := by
  go_enter Try.func13, Try.ntmps13
  go_wp2
  · go_ret
    exact ⟨ret_int (clock_neg _ ‹_›), rfl⟩
  · go_ret
    exact ⟨ret_int (clock_pos _ ‹_›), rfl⟩

set_option maxHeartbeats 400000 in
theorem distance_any (a b : Int) (w : World) :
    Calls Try.prog 16 #[.int .i32 a, .int .i32 b] w fun e w' => e = .returned (.int .i32 ((b - a) % 128)) ∧ w' = w := by
  go_enter Try.func16, Try.ntmps16
  go_wp2
  go_ret
  exact ⟨ret_int (dist_plain _), rfl⟩

/-! ### 2^n, behind a name -/
def pw2 (n : Nat) : Int := 2 ^ n
theorem pw2_nat (n : Nat) : pw2 n = ((2 ^ n : Nat) : Int) := by
  unfold pw2; rw [Int.natCast_pow]; rfl
theorem pw2_succ (n : Nat) : pw2 (n + 1) = pw2 n * 2 := Int.pow_succ 2 n
theorem pw2_pos (n : Nat) : 1 ≤ pw2 n := by
  have := Nat.pow_pos (a := 2) (n := n) (by omega)
  rw [pw2_nat]; omega
theorem pw2_mono {a b : Nat} (h : a ≤ b) : pw2 a ≤ pw2 b := by
  have := Nat.pow_le_pow_right (n := 2) (by omega) h
  rw [pw2_nat, pw2_nat]; omega

set_option maxRecDepth 4000 in
set_option maxHeartbeats 400000 in
theorem ringBits_any (w : World) :
    Calls Try.prog 14 #[] w fun e w' => e = .returned (.int .i64 7) ∧ w' = w := by
  go_enter Try.func14, Try.ntmps14
  go_wp2
  go_loop [1, 2] (fun k pw => ∃ n : Nat, n ≤ 7 ∧ k = .int .i64 n ∧ pw = .int .i64 (pw2 n)) (fun k _ => 7 - (intOf k).toNat)
  case atStart => exact ⟨0, by omega, rfl, rfl⟩
  case round =>
    obtain ⟨n, hn, rfl, rfl⟩ := hrel
    by_cases h7 : 7 ≤ n
    · have h1 : pw2 7 ≤ pw2 n := pw2_mono h7
      have h2 : 128 ≤ pw2 n := h1
      clear h1
      go_wp2
      go_ret
      exact ⟨ret_int (by omega), rfl⟩
    · have h1 : pw2 n ≤ pw2 6 := pw2_mono (by omega)
      have h2 : pw2 n ≤ 64 := h1
      have h3 := pw2_pos n
      have H2 : Hid (pw2 (n + 1) = pw2 n * 2) := pw2_succ n
      clear h1
      go_wp2
      go_round
      case rel => exact ⟨n + 1, by omega, by go_num, by rw [H2.out]⟩
      case measure => simp [intOf]; omega
end Go.Proofs.Qxb6603701a
