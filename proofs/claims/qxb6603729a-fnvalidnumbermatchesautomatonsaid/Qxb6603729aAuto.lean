/-
  zzNumberAutomaton (6): the Go automaton is the plain one.
-/
import Derived.Test.Qxb6603729aRows
import Derived.Test.Qxb6603729aNumPlain
import Derived.WalkKit
import Derived.WalkSpells
import Derived.WalkLawsBesides
namespace Go.Proofs.Qxb6603729a
open Go.RowKit

theorem ret_bool {a b : Bool} (h : a = b) : Ending.returned (.bool a) = .returned (.bool b) := by rw [h]
theorem drop_at (s : ByteArray) (k : Nat) (h : k < s.size) : s.data.toList.drop k = s[k] :: s.data.toList.drop (k + 1) := by
  rw [List.drop_eq_getElem_cons (by simpa using h)]; rfl
theorem classes (n : Nat) : (n = 45) ∨ (n = 43) ∨ (n = 48) ∨ (49 ≤ n ∧ n ≤ 57) ∨ (n = 46) ∨ (n = 101) ∨ (n = 69) ∨ (n < 48 ∧ n ≠ 43 ∧ n ≠ 45 ∧ n ≠ 46) ∨ (57 < n ∧ n ≠ 69 ∧ n ≠ 101) := by omega

set_option maxHeartbeats 4000000 in
theorem auto_any (s : ByteArray) (hs : s.size ≤ 1048576) (w : World) :
    Calls Try.prog 6 #[.string s] w fun e w' => e = .returned (.bool (auto 0 s.data.toList)) ∧ w' = w := by
  go_enter Try.func6, Try.ntmps6
  go_wp2
  go_loop [3, 4] (fun st i => ∃ (k : Nat) (q : Int), k ≤ s.size ∧ i = .int .i64 k ∧ st = .int .i64 q ∧ (q = 0 ∨ q = 1 ∨ q = 2 ∨ q = 3 ∨ q = 4 ∨ q = 5 ∨ q = 6 ∨ q = 7 ∨ q = 8) ∧ auto 0 s.data.toList = auto q (s.data.toList.drop k)) (fun _ i => s.size - (intOf i).toNat)
  case atStart => exact ⟨0, 0, Nat.zero_le _, rfl, rfl, .inl rfl, rfl⟩
  case round =>
    obtain ⟨k, q, hk, rfl, rfl, hq, hA⟩ := hrel
    have HA : Hid (auto 0 s.data.toList = auto q (s.data.toList.drop k)) := hA
    clear hA
    by_cases hlt : k < s.size
    · have HD : Hid (s.data.toList.drop k = s[k] :: s.data.toList.drop (k + 1)) := drop_at s k hlt
      have hcl := classes s[k].toNat
      rcases hq with rfl | rfl | rfl | rfl | rfl | rfl | rfl | rfl | rfl
      · rcases hcl with h | h | h | h | h | h | h | h | h
        all_goals
          try
            have b1 : ((s[k].toNat : Int) == 101) = false := by simp; omega
            have b2 : ((s[k].toNat : Int) == 69) = false := by simp; omega
            have b3 : ((s[k].toNat : Int) == 43) = false := by simp; omega
            have b4 : ((s[k].toNat : Int) == 45) = false := by simp; omega
          go_wp2
          first
            | (go_round
               case rel => exact ⟨k + 1, _, by omega, by go_num, rfl, by simp, by rw [HA.out, HD.out]; exact auto_go (by rw [astep0]; (repeat' split) <;> first | rfl | omega)⟩
               case measure => simp [intOf]; omega)
            | (go_ret
               exact ⟨ret_bool (by rw [HA.out, HD.out]; exact (auto_stop (by rw [astep0]; (repeat' split) <;> first | rfl | omega)).symm), rfl⟩)
      · rcases hcl with h | h | h | h | h | h | h | h | h
        all_goals
          try
            have b1 : ((s[k].toNat : Int) == 101) = false := by simp; omega
            have b2 : ((s[k].toNat : Int) == 69) = false := by simp; omega
            have b3 : ((s[k].toNat : Int) == 43) = false := by simp; omega
            have b4 : ((s[k].toNat : Int) == 45) = false := by simp; omega
          go_wp2
          first
            | (go_round
               case rel => exact ⟨k + 1, _, by omega, by go_num, rfl, by simp, by rw [HA.out, HD.out]; exact auto_go (by rw [astep1]; (repeat' split) <;> first | rfl | omega)⟩
               case measure => simp [intOf]; omega)
            | (go_ret
               exact ⟨ret_bool (by rw [HA.out, HD.out]; exact (auto_stop (by rw [astep1]; (repeat' split) <;> first | rfl | omega)).symm), rfl⟩)
      · rcases hcl with h | h | h | h | h | h | h | h | h
        all_goals
          try
            have b1 : ((s[k].toNat : Int) == 101) = false := by simp; omega
            have b2 : ((s[k].toNat : Int) == 69) = false := by simp; omega
            have b3 : ((s[k].toNat : Int) == 43) = false := by simp; omega
            have b4 : ((s[k].toNat : Int) == 45) = false := by simp; omega
          go_wp2
          first
            | (go_round
               case rel => exact ⟨k + 1, _, by omega, by go_num, rfl, by simp, by rw [HA.out, HD.out]; exact auto_go (by rw [astep2]; (repeat' split) <;> first | rfl | omega)⟩
               case measure => simp [intOf]; omega)
            | (go_ret
               exact ⟨ret_bool (by rw [HA.out, HD.out]; exact (auto_stop (by rw [astep2]; (repeat' split) <;> first | rfl | omega)).symm), rfl⟩)
      · rcases hcl with h | h | h | h | h | h | h | h | h
        all_goals
          try
            have b1 : ((s[k].toNat : Int) == 101) = false := by simp; omega
            have b2 : ((s[k].toNat : Int) == 69) = false := by simp; omega
            have b3 : ((s[k].toNat : Int) == 43) = false := by simp; omega
            have b4 : ((s[k].toNat : Int) == 45) = false := by simp; omega
          go_wp2
          first
            | (go_round
               case rel => exact ⟨k + 1, _, by omega, by go_num, rfl, by simp, by rw [HA.out, HD.out]; exact auto_go (by rw [astep3]; (repeat' split) <;> first | rfl | omega)⟩
               case measure => simp [intOf]; omega)
            | (go_ret
               exact ⟨ret_bool (by rw [HA.out, HD.out]; exact (auto_stop (by rw [astep3]; (repeat' split) <;> first | rfl | omega)).symm), rfl⟩)
      · rcases hcl with h | h | h | h | h | h | h | h | h
        all_goals
          try
            have b1 : ((s[k].toNat : Int) == 101) = false := by simp; omega
            have b2 : ((s[k].toNat : Int) == 69) = false := by simp; omega
            have b3 : ((s[k].toNat : Int) == 43) = false := by simp; omega
            have b4 : ((s[k].toNat : Int) == 45) = false := by simp; omega
          go_wp2
          first
            | (go_round
               case rel => exact ⟨k + 1, _, by omega, by go_num, rfl, by simp, by rw [HA.out, HD.out]; exact auto_go (by rw [astep4]; (repeat' split) <;> first | rfl | omega)⟩
               case measure => simp [intOf]; omega)
            | (go_ret
               exact ⟨ret_bool (by rw [HA.out, HD.out]; exact (auto_stop (by rw [astep4]; (repeat' split) <;> first | rfl | omega)).symm), rfl⟩)
      · rcases hcl with h | h | h | h | h | h | h | h | h
        all_goals
          try
            have b1 : ((s[k].toNat : Int) == 101) = false := by simp; omega
            have b2 : ((s[k].toNat : Int) == 69) = false := by simp; omega
            have b3 : ((s[k].toNat : Int) == 43) = false := by simp; omega
            have b4 : ((s[k].toNat : Int) == 45) = false := by simp; omega
          go_wp2
          first
            | (go_round
               case rel => exact ⟨k + 1, _, by omega, by go_num, rfl, by simp, by rw [HA.out, HD.out]; exact auto_go (by rw [astep5]; (repeat' split) <;> first | rfl | omega)⟩
               case measure => simp [intOf]; omega)
            | (go_ret
               exact ⟨ret_bool (by rw [HA.out, HD.out]; exact (auto_stop (by rw [astep5]; (repeat' split) <;> first | rfl | omega)).symm), rfl⟩)
      · rcases hcl with h | h | h | h | h | h | h | h | h
        all_goals
          try
            have b1 : ((s[k].toNat : Int) == 101) = false := by simp; omega
            have b2 : ((s[k].toNat : Int) == 69) = false := by simp; omega
            have b3 : ((s[k].toNat : Int) == 43) = false := by simp; omega
            have b4 : ((s[k].toNat : Int) == 45) = false := by simp; omega
          go_wp2
          first
            | (go_round
               case rel => exact ⟨k + 1, _, by omega, by go_num, rfl, by simp, by rw [HA.out, HD.out]; exact auto_go (by rw [astep6]; (repeat' split) <;> first | rfl | omega)⟩
               case measure => simp [intOf]; omega)
            | (go_ret
               exact ⟨ret_bool (by rw [HA.out, HD.out]; exact (auto_stop (by rw [astep6]; (repeat' split) <;> first | rfl | omega)).symm), rfl⟩)
      · rcases hcl with h | h | h | h | h | h | h | h | h
        all_goals
          try
            have b1 : ((s[k].toNat : Int) == 101) = false := by simp; omega
            have b2 : ((s[k].toNat : Int) == 69) = false := by simp; omega
            have b3 : ((s[k].toNat : Int) == 43) = false := by simp; omega
            have b4 : ((s[k].toNat : Int) == 45) = false := by simp; omega
          go_wp2
          first
            | (go_round
               case rel => exact ⟨k + 1, _, by omega, by go_num, rfl, by simp, by rw [HA.out, HD.out]; exact auto_go (by rw [astep7]; (repeat' split) <;> first | rfl | omega)⟩
               case measure => simp [intOf]; omega)
            | (go_ret
               exact ⟨ret_bool (by rw [HA.out, HD.out]; exact (auto_stop (by rw [astep7]; (repeat' split) <;> first | rfl | omega)).symm), rfl⟩)
      · rcases hcl with h | h | h | h | h | h | h | h | h
        all_goals
          try
            have b1 : ((s[k].toNat : Int) == 101) = false := by simp; omega
            have b2 : ((s[k].toNat : Int) == 69) = false := by simp; omega
            have b3 : ((s[k].toNat : Int) == 43) = false := by simp; omega
            have b4 : ((s[k].toNat : Int) == 45) = false := by simp; omega
          first
            | have d1 : decide ((s[k].toNat : Int) ≤ 57) = true := by simp; omega
            | have d1 : decide ((s[k].toNat : Int) ≤ 57) = false := by simp; omega
          go_wp2
          first
            | (go_round
               case rel => exact ⟨k + 1, _, by omega, by go_num, rfl, by simp, by rw [HA.out, HD.out]; exact auto_go (by rw [astep8]; (repeat' split) <;> first | rfl | omega)⟩
               case measure => simp [intOf]; omega)
            | (go_ret
               exact ⟨ret_bool (by rw [HA.out, HD.out]; exact (auto_stop (by rw [astep8]; (repeat' split) <;> first | rfl | omega)).symm), rfl⟩)
    · have HE : Hid (s.data.toList.drop k = []) := List.drop_eq_nil_of_le (by simp; omega)
      rcases hq with rfl | rfl | rfl | rfl | rfl | rfl | rfl | rfl | rfl
      all_goals
        go_wp2
        go_ret
        exact ⟨ret_bool (by rw [HA.out, HE.out]; rfl), rfl⟩
end Go.Proofs.Qxb6603729a
