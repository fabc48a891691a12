/-
  arrayIndex (9), ZZArrayIndex (5), zzDecimalIndex (8): what each answers.
-/
import Derived.Test.Qxb6603729aDoorRows
import Derived.Test.Qxb6603729aDoorPlain
import Derived.Test.Qxb6603729aDoorShelf
import Derived.WalkKit
import Derived.WalkSpells
import Derived.WalkLawsBesides
import Derived.Lib.Strings
import Derived.Lib.ConvBytes
import Derived.Lib.AtoiErrMem
namespace Go.Proofs.Qxb6603729aDoor
open Go.RowKit

theorem data_at (s : ByteArray) (h : 0 < s.size) : s.data.toList = s[0] :: s.data.toList.drop 1 := by
  have := List.drop_eq_getElem_cons (l := s.data.toList) (i := 0) (by simpa using h)
  exact this
theorem data_nil {s : ByteArray} (h : ¬ 0 < s.size) : s.data.toList = [] := by
  apply List.eq_nil_of_length_eq_zero
  rw [Array.length_toList]
  have e : s.data.size = s.size := rfl
  omega
theorem data_len (s : ByteArray) : s.data.toList.length = s.size := by simp
theorem ne_nil {v : ByteArray} (h : 0 < v.size) : (v.toList = []) = False ∧ v.toList.isEmpty = false ∧ (v.toList == []) = false := by
  rw [Lib.toList_data, data_at v h]; simp
theorem is_nil {v : ByteArray} (h : ¬ 0 < v.size) : v.toList = [] := by
  rw [Lib.toList_data, data_nil h]
theorem lead_nil {s : ByteArray} (h : ¬ 0 < s.size) : Lead s.data.toList := .inl (data_nil h)
theorem lead_zero {s : ByteArray} (h : 0 < s.size) (h1 : s[0].toNat = 48) (h2 : 1 < s.size) : Lead s.data.toList :=
  .inr ⟨by rw [data_at s h]; exact h1, by rw [data_len]; exact h2⟩
theorem not_lead {s : ByteArray} (h : 0 < s.size) (h1 : ¬ (s[0].toNat = 48 ∧ 1 < s.size)) : ¬ Lead s.data.toList := by
  rintro (e | ⟨e1, e2⟩)
  · rw [data_at s h] at e; cases e
  · rw [data_at s h] at e1
    rw [data_len] at e2
    exact h1 ⟨e1, e2⟩
theorem allD_of {s : ByteArray} (h : ∀ i (hi : i < s.size), 48 ≤ s[i].toNat ∧ s[i].toNat ≤ 57) : AllD s.data.toList := by
  intro c hc
  obtain ⟨i, hi, e⟩ := List.getElem_of_mem hc
  have := h i (by simpa using hi)
  rw [← e]; exact this
theorem not_allD {s : ByteArray} (k : Nat) (hk : k < s.size) (h : ¬ (48 ≤ s[k].toNat ∧ s[k].toNat ≤ 57)) : ¬ AllD s.data.toList :=
  fun a => h (a s[k] (List.getElem_mem (by simpa using hk)))

/-- The answer, behind a name. -/
def Ans (l : List UInt8) (e : Ending) : Prop := ∃ (i : Int) (ok : Bool), e = .returned (.tuple #[.int .i64 i, .bool ok]) ∧ AIdx l i ok

/-! ### zzDecimalIndex -/
theorem dec_take (s : ByteArray) (k : Nat) (h : k < s.size) : decA 0 (s.data.toList.take (k + 1)) = decA 0 (s.data.toList.take k) * 10 + (s[k].toNat - 48) := by
  rw [List.take_succ_eq_append_getElem (by simpa using h), decA_append]
  have e : s.data.toList[k]'(by simpa using h) = s[k] := rfl
  rw [e, decA_cons, decA_nil]
theorem dec_le (l : List UInt8) (k : Nat) : decA 0 (l.take k) ≤ decA 0 l := by
  have e := decA_append (l.take k) (l.drop k) 0
  rw [List.take_append_drop] at e
  rw [e]; exact decA_ge _ _

/-- The loop's relation. -/
def DecRel (s : ByteArray) (v i : Value) : Prop := ∃ k n : Nat, k ≤ s.size ∧ i = .int .i64 k ∧ v = .int .i64 n ∧ n < 9223372036854775808 ∧ Hid (n = decA 0 (s.data.toList.take k)) ∧ Hid (∀ j (hj : j < s.size), j < k → 48 ≤ s[j].toNat ∧ s[j].toNat ≤ 57)
theorem dec_zero (s : ByteArray) : Hid (0 = decA 0 (s.data.toList.take 0)) := by
  show 0 = decA 0 (s.data.toList.take 0)
  rw [List.take_zero, decA_nil]
theorem no_zero (s : ByteArray) : Hid (∀ j (hj : j < s.size), j < 0 → 48 ≤ s[j].toNat ∧ s[j].toNat ≤ 57) := fun j _ h => absurd h (Nat.not_lt_zero j)

set_option maxHeartbeats 1000000 in
theorem decimal_any (s : ByteArray) (hs : s.size ≤ 1048576) (w : World) :
    Calls Tryd.prog 8 #[.string s] w fun e w' => Ans s.data.toList e ∧ w' = w := by
  by_cases h0 : 0 < s.size
  · have hst : (0 : Int) < (s.size : Int) := by omega
    by_cases h1 : s[0].toNat = 48
    · have hb1 : ((s[0].toNat : Int) == 48) = true := by simp only [beq_iff_eq]; omega
      by_cases h2 : 1 < s.size
      · have hb2 : ((s.size : Int) == 1) = false := by simp only [beq_eq_false_iff_ne, ne_eq]; omega
        have HA : Hid (AIdx s.data.toList 0 false) := AIdx_lead (lead_zero h0 h1 h2)
        clear h1
        go_enter Tryd.func8, Tryd.ntmps8
        go_wp2
        go_ret2
        exact ⟨⟨_, _, rfl, HA.out⟩, rfl⟩
      · have hb2 : ((s.size : Int) == 1) = true := by simp only [beq_iff_eq]; omega
        have HA : Hid (AIdx s.data.toList 0 true) := by
          have e : s.data.toList = [s[0]] := by
            have hl := data_len s
            have hd := data_at s h0
            rw [hd] at hl
            simp only [List.length_cons] at hl
            rw [hd, List.eq_nil_of_length_eq_zero (l := s.data.toList.drop 1) (by omega)]
          have ed : decA 0 s.data.toList = 0 := by rw [e, decA_cons, decA_nil]; omega
          have := AIdx_yes (l := s.data.toList) (not_lead h0 (fun h => h2 h.2)) (by rw [e]; intro c hc; simp at hc; subst hc; omega) (by omega)
          rw [ed] at this
          exact this
        clear h1
        go_enter Tryd.func8, Tryd.ntmps8
        go_wp2
        go_ret2
        exact ⟨⟨_, _, rfl, HA.out⟩, rfl⟩
    · have hb1 : ((s[0].toNat : Int) == 48) = false := by simp only [beq_eq_false_iff_ne, ne_eq]; omega
      have HNL : Hid (¬ Lead s.data.toList) := not_lead h0 (fun h => h1 h.1)
      clear h1
      go_enter Tryd.func8, Tryd.ntmps8
      go_wp2
      go_loop [4, 5] (fun v i => DecRel s v i) (fun _ i => s.size - (intOf i).toNat)
      case atStart => exact ⟨0, 0, Nat.zero_le _, rfl, rfl, by omega, dec_zero s, no_zero s⟩
      case round =>
        obtain ⟨k, n, hk, rfl, rfl, hn, HE, HD⟩ := hrel
        by_cases hlt : k < s.size
        · by_cases c1 : s[k].toNat < 48
          · have HA : Hid (AIdx s.data.toList 0 false) := AIdx_not (not_allD k hlt (fun h => by omega))
            go_wp2
            go_ret2
            exact ⟨⟨_, _, rfl, HA.out⟩, rfl⟩
          by_cases c2 : 57 < s[k].toNat
          · have HA : Hid (AIdx s.data.toList 0 false) := AIdx_not (not_allD k hlt (fun h => by omega))
            go_wp2
            go_ret2
            exact ⟨⟨_, _, rfl, HA.out⟩, rfl⟩
          have HS : Hid (decA 0 (s.data.toList.take (k + 1)) = n * 10 + (s[k].toNat - 48)) := by rw [HE.out]; exact dec_take s k hlt
          have c1' : 48 ≤ s[k].toNat := by omega
          have c2' : s[k].toNat ≤ 57 := by omega
          clear c1 c2
          by_cases c3 : n * 10 + (s[k].toNat - 48) < 9223372036854775808
          · go_wp2
            go_round
            case rel =>
              have R : DecRel s (.int .i64 ((n : Int) * 10 + ((s[k].toNat : Int) - 48))) (.int .i64 ((k : Int) + 1)) :=
                ⟨k + 1, n * 10 + (s[k].toNat - 48), by omega, by go_num, by go_num, c3, HS.out.symm, fun j hj hjk => by
                  by_cases e : j = k
                  · subst e; exact ⟨c1', c2'⟩
                  · exact HD.out j hj (by omega)⟩
              first
                | exact R
                | exact ⟨_, _, _, _, R, rfl, rfl, rfl, rfl⟩
            case measure => simp [intOf]; omega
          · have HA : Hid (AIdx s.data.toList 0 false) := AIdx_over (l := s.data.toList) (fun _ => by
              have h1 := dec_le s.data.toList (k + 1)
              rw [HS.out] at h1
              omega)
            go_wp2
            go_ret2
            exact ⟨⟨_, _, rfl, HA.out⟩, rfl⟩
        · have HA : Hid (AIdx s.data.toList n true) := by
            have e : s.data.toList.take k = s.data.toList := List.take_of_length_le (by rw [data_len]; omega)
            have e2 := HE.out
            rw [e] at e2
            have := AIdx_yes HNL.out (allD_of (fun i hi => HD.out i hi (by omega))) (by omega)
            rw [← e2] at this
            exact this
          go_wp2
          go_ret2
          exact ⟨⟨_, _, rfl, HA.out⟩, rfl⟩
  · have HA : Hid (AIdx s.data.toList 0 false) := AIdx_lead (lead_nil h0)
    have hb0 : ((s.size : Int) == 0) = true := by simp only [beq_iff_eq]; omega
    go_enter Tryd.func8, Tryd.ntmps8
    go_wp2
    go_ret2
    exact ⟨⟨_, _, rfl, HA.out⟩, rfl⟩

/-! ### arrayIndex -/
set_option maxHeartbeats 1000000 in
theorem index_lead (s : ByteArray) (hs : s.size ≤ 1048576) (w : World) (h : ∀ h0 : 0 < s.size, s[0].toNat = 48 ∧ 1 < s.size) :
    Calls Tryd.prog 9 #[.string s] w fun e w' => Ans s.data.toList e ∧ Below w.heap.size w w' := by
  by_cases h0 : 0 < s.size
  · have hst : (0 : Int) < (s.size : Int) := by omega
    obtain ⟨t1, t2, t3⟩ := ne_nil h0
    obtain ⟨h1, h2⟩ := h h0
    have HA : Hid (AIdx s.data.toList 0 false) := AIdx_lead (lead_zero h0 h1 h2)
    have hb1 : ((s[0].toNat : Int) == 48) = true := by simp only [beq_iff_eq]; omega
    have hd : decide ((1 : Int) < (s.size : Int)) = true := decide_eq_true (by omega)
    clear h1 h
    go_enter Tryd.func9, Tryd.ntmps9
    go_wp2
    go_ret2
    exact ⟨⟨_, _, rfl, HA.out⟩, Below.refl _ _⟩
  · have t1 := is_nil h0
    have HA : Hid (AIdx s.data.toList 0 false) := AIdx_lead (lead_nil h0)
    clear h
    go_enter Tryd.func9, Tryd.ntmps9
    go_wp2
    go_ret2
    exact ⟨⟨_, _, rfl, HA.out⟩, Below.refl _ _⟩

/-- The loop's relation. -/
def IdxRel (s : ByteArray) (i : Value) : Prop := ∃ k : Nat, k ≤ s.size ∧ i = .int .i64 k ∧ Hid (∀ j (hj : j < s.size), j < k → 48 ≤ s[j].toNat ∧ s[j].toNat ≤ 57)

set_option maxHeartbeats 1000000 in
theorem index_rest (s : ByteArray) (hs : s.size ≤ 1048576) (h0 : 0 < s.size) (hb : Bool) (hbb : ((s[0].toNat : Int) == 48) = hb) (hnl : ¬ (s[0].toNat = 48 ∧ 1 < s.size)) (ev : Value) (w : World) (hv : w.cell? ⟨1, 0, none⟩ = some ev) (hev : ev = .nilIface ∨ ∃ te pe, ev = .iface te pe) :
    Calls Tryd.prog 9 #[.string s] w fun e w' => Ans s.data.toList e ∧ Below w.heap.size w w' := by
  have hst : (0 : Int) < (s.size : Int) := by omega
  obtain ⟨t1, t2, t3⟩ := ne_nil h0
  have HNL : Hid (¬ Lead s.data.toList) := not_lead h0 hnl
  have hd : hb = true → decide ((1 : Int) < (s.size : Int)) = false := fun e => by
    subst e
    simp only [beq_iff_eq] at hbb
    exact decide_eq_false (fun h => hnl ⟨by omega, by omega⟩)
  clear hnl
  have hcv := Lib.run_convert_string_bytes (P := Tryd.prog) w 9 29 5 s (u := .string) Tryd.underlying9 Tryd.underlying29 Tryd.underlying5
  have hbw := Lib.bytesWorld_below w 5 s
  have hc1 : ∀ j (hj : j < s.size), (Lib.bytesWorld w 5 s).cell? ⟨w.heap.size, j, none⟩ = some (.int .u8 (s[j].toNat : Int)) := fun j hj => by
    rw [Lib.bytesWorld_cell w 5 s j hj]
    have e : s.data.toList.getD j 0 = s[j] := by
      have hl : j < s.data.toList.length := by rw [data_len]; exact hj
      have e2 : s.data.toList.getD j 0 = s.data.toList[j] := by simp [List.getD, List.getElem?_eq_getElem hl]
      rw [e2]; rfl
    rw [e]
  have hv1 : (Lib.bytesWorld w 5 s).cell? ⟨1, 0, none⟩ = some ev := cell_later hbw hv
  have HC1 : Hid (∀ j (hj : j < s.size), (Lib.bytesWorld w 5 s).cell? ⟨w.heap.size, j, none⟩ = some (.int .u8 (s[j].toNat : Int))) := hc1
  clear hc1
  generalize Lib.bytesWorld w 5 s = W1 at hcv hbw HC1 hv1
  cases hb
  all_goals
    have hd' := hd
    clear hd
    first | (have hdd := hd' rfl; clear hd') | clear hd'
    go_enter Tryd.func9, Tryd.ntmps9
    go_wp2
    go_loop [23] (fun i => IdxRel s i) (fun i => s.size - (intOf i).toNat)
    case atStart => exact ⟨0, Nat.zero_le _, rfl, no_zero s⟩
    case round =>
      obtain ⟨k, hk, rfl, HD⟩ := hrel
      by_cases hlt : k < s.size
      · have hcell := HC1.out k hlt
        have hlt' : (k : Int) < (s.size : Int) := by omega
        by_cases c1 : s[k].toNat < 48
        · have HA : Hid (AIdx s.data.toList 0 false) := AIdx_not (not_allD k hlt (fun h => by omega))
          go_wp2
          go_ret2
          exact ⟨⟨_, _, rfl, HA.out⟩, hbw⟩
        by_cases c2 : 57 < s[k].toNat
        · have HA : Hid (AIdx s.data.toList 0 false) := AIdx_not (not_allD k hlt (fun h => by omega))
          go_wp2
          go_ret2
          exact ⟨⟨_, _, rfl, HA.out⟩, hbw⟩
        go_wp2
        go_round
        case rel =>
          have R : IdxRel s (.int .i64 ((k : Int) + 1)) := ⟨k + 1, by omega, by go_num, fun j hj hjk => by
            by_cases e : j = k
            · subst e; exact ⟨by omega, by omega⟩
            · exact HD.out j hj (by omega)⟩
          first
            | exact R
            | exact ⟨_, _, _, R, rfl, rfl, rfl⟩
        case measure => simp [intOf]; omega
      · have hall := allD_of (s := s) (fun i hi => HD.out i hi (by omega))
        have hne : s.data.toList ≠ [] := fun e => by rw [data_at s h0] at e; cases e
        by_cases c3 : decA 0 s.data.toList < 9223372036854775808
        · have HA : Hid (AIdx s.data.toList (decA 0 s.data.toList : Int) true) := AIdx_yes HNL.out hall c3
          have HO : Hid (Lib.atoiAll s.data.toList = .ok (decA 0 s.data.toList : Int)) := atoi_ok _ hne hall c3
          clear hall hne c3
          go_wp2_with (go_at_call 10; refine (Tryd.strconv_Atoi_ok s (by omega) _ HO.out _).mono ?_; rintro e w' ⟨rfl, hw⟩)
          go_ret2
          refine ⟨⟨_, _, rfl, HA.out⟩, ?_⟩
          rcases hw with rfl | ⟨t, rfl⟩
          · exact hbw
          · exact hbw.trans ((Lib.bytesWorld_below _ _ _).mono hbw.size)
        · have HA : Hid (AIdx s.data.toList 0 false) := AIdx_over (fun _ => by omega)
          have HO : Hid (Lib.atoiAll s.data.toList = .range) := atoi_range _ hne hall (by omega)
          clear hall hne c3
          go_wp2_with (go_at_call 10; refine (Tryd.strconv_Atoi_range s (by omega) HO.out ev _ hv1 hev).mono ?_; rintro e w' ⟨N, rfl, -, -, hb2⟩)
          go_ret2
          exact ⟨⟨_, _, rfl, HA.out⟩, hbw.trans (hb2.mono hbw.size)⟩

theorem index_any (s : ByteArray) (hs : s.size ≤ 1048576) (ev : Value) (w : World) (hv : w.cell? ⟨1, 0, none⟩ = some ev) (hev : ev = .nilIface ∨ ∃ te pe, ev = .iface te pe) :
    Calls Tryd.prog 9 #[.string s] w fun e w' => Ans s.data.toList e ∧ Below w.heap.size w w' := by
  by_cases h : ∀ h0 : 0 < s.size, s[0].toNat = 48 ∧ 1 < s.size
  · exact index_lead s hs w h
  · have h0 : 0 < s.size := by
      by_cases h0 : 0 < s.size
      · exact h0
      · exact absurd (fun h1 => absurd h1 h0) h
    exact index_rest s hs h0 _ rfl (fun e => h (fun _ => e)) ev w hv hev
end Go.Proofs.Qxb6603729aDoor
