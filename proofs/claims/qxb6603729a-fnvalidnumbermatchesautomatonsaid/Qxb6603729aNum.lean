/-
  ValidNumber (5), its closure (8), TrimPrefix (7) and CutPrefix (9) at a prefix of one byte.
-/
import Derived.Test.Qxb6603729aRows
import Derived.Test.Qxb6603729aNumPlain
import Derived.WalkKit
import Derived.WalkSpells
import Derived.WalkLawsBesides
import Derived.Lib.Strings
namespace Go.Proofs.Qxb6603729a
open Go.RowKit

theorem ret_int {k : IntKind} {a b : Int} (h : a = b) : Ending.returned (.int k a) = .returned (.int k b) := by rw [h]

/-! ### The closure: how many digits stand first -/
theorem nd_is (l : List UInt8) (k : Nat) (hk : k ≤ l.length) (hd : ∀ i (h : i < l.length), i < k → 48 ≤ l[i].toNat ∧ l[i].toNat ≤ 57) (he : ∀ h : k < l.length, ¬ (48 ≤ l[k].toNat ∧ l[k].toNat ≤ 57)) : nd l = k := by
  induction l generalizing k with
  | nil => simp at hk; subst hk; rfl
  | cons c r ih =>
    match k with
    | 0 => exact nd_cons_no (he (by simp))
    | k + 1 =>
      have h0 : 48 ≤ c.toNat ∧ c.toNat ≤ 57 := hd 0 (by simp) (by omega)
      rw [nd_cons_yes h0, ih k (by simpa using hk)]
      · intro i h hi
        exact hd (i + 1) (by simpa using h) (by omega)
      · intro h
        exact he (by simpa using h)
theorem nd_le (l : List UInt8) : nd l ≤ l.length := by
  induction l with
  | nil => exact Nat.le_refl _
  | cons c r ih =>
    by_cases h : 48 ≤ c.toNat ∧ c.toNat ≤ 57
    · rw [nd_cons_yes h]; simp; exact ih
    · rw [nd_cons_no h]; omega

set_option maxHeartbeats 400000 in
theorem digits_any (b : Nat) (s : ByteArray) (hs : s.size ≤ 1048576) (w : World) (hc : w.cell? ⟨b, 0, none⟩ = some (.string s)) :
    Calls Try.prog 8 #[.pointer (some ⟨b, 0, none⟩)] w fun e w' => e = .returned (.int .i64 (nd s.data.toList)) ∧ w' = w := by
  go_enter Try.func8, Try.ntmps8
  go_wp2
  go_loop [2] (fun n => ∃ k : Nat, k ≤ s.size ∧ n = .int .i64 k ∧ ∀ i (h : i < s.size), i < k → 48 ≤ s[i].toNat ∧ s[i].toNat ≤ 57) (fun n => s.size - (intOf n).toNat)
  case atStart => exact ⟨0, Nat.zero_le _, rfl, fun i _ h => by omega⟩
  case round =>
    obtain ⟨k, hk, rfl, hd⟩ := hrel
    have HD : Hid (∀ i (h : i < s.size), i < k → 48 ≤ s[i].toNat ∧ s[i].toNat ≤ 57) := hd
    clear hd
    by_cases hlt : k < s.size
    · by_cases c1 : 48 ≤ s[k].toNat
      · by_cases c2 : s[k].toNat ≤ 57
        · go_wp2
          go_round
          case rel =>
            exact ⟨k + 1, by omega, by go_num, fun i h hi => by
              by_cases e : i = k
              · subst e; exact ⟨c1, c2⟩
              · exact HD.out i h (by omega)⟩
          case measure => simp [intOf]; omega
        · go_wp2
          go_ret
          exact ⟨ret_int (by rw [nd_is s.data.toList k (by simpa using hk) (fun i h hi => HD.out i (by simpa using h) hi) (fun _ h => c2 h.2)]), rfl⟩
      · go_wp2
        go_ret
        exact ⟨ret_int (by rw [nd_is s.data.toList k (by simpa using hk) (fun i h hi => HD.out i (by simpa using h) hi) (fun _ h => c1 h.1)]), rfl⟩
    · go_wp2
      go_ret
      exact ⟨ret_int (by rw [nd_is s.data.toList k (by simpa using hk) (fun i h hi => HD.out i (by simpa using h) hi) (fun h _ => hlt (by simpa using h))]), rfl⟩

/-! ### TrimPrefix, CutPrefix -/
theorem data_at (s : ByteArray) (h : 0 < s.size) : s.data.toList = s[0] :: s.data.toList.drop 1 := by
  have := List.drop_eq_getElem_cons (l := s.data.toList) (i := 0) (by simpa using h)
  exact this
theorem first_byte (s : ByteArray) (h : 0 < s.size) : (s.extract 0 1).toList = [s[0]] := by
  rw [Lib.extract_toList, List.drop_zero, data_at s h]; rfl
theorem first_is (s : ByteArray) (h : 0 < s.size) (v : UInt8) (e : s[0].toNat = v.toNat) : ((s.extract 0 1).toList == [v]) = true := by
  rw [first_byte s h, UInt8.toNat_inj.1 e]; simp
theorem first_isnt (s : ByteArray) (h : 0 < s.size) (v : UInt8) (e : ¬ s[0].toNat = v.toNat) : ((s.extract 0 1).toList == [v]) = false := by
  rw [first_byte s h]
  have : s[0] ≠ v := fun h => e (by rw [h])
  simpa using this
theorem tail_data (s : ByteArray) (n : Nat) : (s.extract n s.size).data.toList = s.data.toList.drop n := by
  rw [Lib.extract_data, List.take_of_length_le (by simp)]

theorem trim_yes {s : ByteArray} (h : 0 < s.size) (e : s[0].toNat = 45) : s.data.toList.drop 1 = trim s.data.toList := by
  rw [data_at s h]; simp only [trim]; rw [if_pos e]; rfl
theorem trim_no {s : ByteArray} (h : 0 < s.size) (e : ¬ s[0].toNat = 45) : s.data.toList = trim s.data.toList := by
  rw [data_at s h]; simp only [trim]; rw [if_neg e]
theorem data_nil {s : ByteArray} (h : ¬ 0 < s.size) : s.data.toList = [] := by
  apply List.eq_nil_of_length_eq_zero
  rw [Array.length_toList]
  have e : s.data.size = s.size := rfl
  omega

set_option maxHeartbeats 400000 in
theorem trim_any (s : ByteArray) (hs : s.size ≤ 1048576) (w : World) :
    Calls Try.prog 7 #[.string s, .string ⟨#[45]⟩] w fun e w' => ∃ t : ByteArray, e = .returned (.string t) ∧ t.data.toList = trim s.data.toList ∧ w' = w := by
  by_cases h0 : 0 < s.size
  · by_cases h1 : s[0].toNat = 45
    · have hb := first_is s h0 45 h1
      have H : Hid _ := trim_yes h0 h1
      clear h1
      go_enter Try.func7, Try.ntmps7
      go_wp2
      go_ret
      exact ⟨_, rfl, by rw [tail_data]; exact H.out, rfl⟩
    · have hb := first_isnt s h0 45 h1
      have H : Hid _ := trim_no h0 h1
      clear h1
      go_enter Try.func7, Try.ntmps7
      go_wp2
      go_ret
      exact ⟨_, rfl, H.out, rfl⟩
  · have H : Hid _ := data_nil h0
    go_enter Try.func7, Try.ntmps7
    go_wp2
    go_ret
    exact ⟨_, rfl, by rw [H.out]; rfl, rfl⟩

set_option maxHeartbeats 400000 in
theorem cut_yes (s : ByteArray) (hs : s.size ≤ 1048576) (h0 : 0 < s.size) (h1 : s[0].toNat = 46) (w : World) :
    Calls Try.prog 9 #[.string s, .string ⟨#[46]⟩] w fun e w' => ∃ t : ByteArray, e = .returned (.tuple #[.string t, .bool true]) ∧ t.data.toList = s.data.toList.drop 1 ∧ w' = w := by
  have hb := first_is s h0 46 h1
  clear h1
  go_enter Try.func9, Try.ntmps9
  go_wp2
  go_ret2
  exact ⟨_, rfl, by rw [tail_data], rfl⟩

set_option maxHeartbeats 400000 in
theorem cut_no (s : ByteArray) (hs : s.size ≤ 1048576) (h : ∀ h0 : 0 < s.size, ¬ s[0].toNat = 46) (w : World) :
    Calls Try.prog 9 #[.string s, .string ⟨#[46]⟩] w fun e w' => e = .returned (.tuple #[.string s, .bool false]) ∧ w' = w := by
  by_cases h0 : 0 < s.size
  · have hb := first_isnt s h0 46 (h h0)
    clear h
    go_enter Try.func9, Try.ntmps9
    go_wp2
    go_ret2
    exact ⟨rfl, rfl⟩
  · clear h
    go_enter Try.func9, Try.ntmps9
    go_wp2
    go_ret2
    exact ⟨rfl, rfl⟩
end Go.Proofs.Qxb6603729a
