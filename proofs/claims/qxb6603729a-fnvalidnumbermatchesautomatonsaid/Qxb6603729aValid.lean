/-
  ValidNumber (5): the plain grammar.
-/
import Derived.Test.Qxb6603729aNum
import Derived.Deep.DeepCutAuto
namespace Go.Proofs.Qxb6603729a
open Go.RowKit

theorem ret_bool' {a b : Bool} (h : a = b) : Ending.returned (.bool a) = .returned (.bool b) := by rw [h]

theorem trim_len (l : List UInt8) : (trim l).length ≤ l.length := by
  cases l with
  | nil => exact Nat.le_refl _
  | cons c r => simp only [trim]; split <;> simp
theorem size_of {t : ByteArray} {l : List UInt8} (h : t.data.toList = l) : t.size = l.length := by
  rw [← h]; simp

theorem drop_size {u v : ByteArray} {n : Nat} (h : v.data.toList = u.data.toList.drop n) (hu : u.size ≤ 1048576) : v.size ≤ 1048576 := by
  rw [size_of h]; simp; omega

/-! ### The plain ways -/
theorem num_zero {l : List UInt8} (h : nd l = 0) : num l = false := by unfold num; rw [if_pos h]
theorem num_lead {l : List UInt8} (h : ¬ nd l = 0) (h2 : (l.headD 0).toNat = 48 ∧ 1 < nd l) : num l = false := by unfold num; rw [if_neg h, if_pos h2]
theorem num_rest {l : List UInt8} (h : ¬ nd l = 0) (h2 : ¬ ((l.headD 0).toNat = 48 ∧ 1 < nd l)) : num l = frac (l.drop (nd l)) := by unfold num; rw [if_neg h, if_neg h2]
theorem head_at {t : ByteArray} (h : 0 < t.size) : (t.data.toList.headD 0).toNat = t[0].toNat := by rw [data_at t h]; rfl
theorem nd_pos_size {t : ByteArray} (h : ¬ nd t.data.toList = 0) : 0 < t.size := by
  have := nd_le t.data.toList
  simp at this
  omega
theorem frac_yes {u : ByteArray} (h : 0 < u.size) (e : u[0].toNat = 46) : frac u.data.toList = if nd (u.data.toList.drop 1) = 0 then false else expo ((u.data.toList.drop 1).drop (nd (u.data.toList.drop 1))) := by
  have h' := data_at u h
  generalize u.data.toList.drop 1 = r at *
  rw [h']; simp only [frac]; rw [if_pos e]
theorem frac_no {u : ByteArray} (h : ∀ h0 : 0 < u.size, ¬ u[0].toNat = 46) : frac u.data.toList = expo u.data.toList := by
  by_cases h0 : 0 < u.size
  · rw [data_at u h0]; simp only [frac]; rw [if_neg (h h0)]
  · rw [data_nil h0]; rfl
theorem expo_nil {u : ByteArray} (h : ¬ 0 < u.size) : expo u.data.toList = true := by rw [data_nil h]; rfl
theorem expo_no {u : ByteArray} (h : 0 < u.size) (e : ¬ (u[0].toNat = 101 ∨ u[0].toNat = 69)) : expo u.data.toList = false := by
  rw [data_at u h]; simp only [expo]; rw [if_neg (fun c => e ((isE_iff _).1 c))]
theorem expo_yes {u : ByteArray} (h : 0 < u.size) (e : u[0].toNat = 101 ∨ u[0].toNat = 69) : expo u.data.toList = expD (sgn (u.data.toList.drop 1)) := by
  have h' := data_at u h
  generalize u.data.toList.drop 1 = r at *
  rw [h']; simp only [expo]; rw [if_pos ((isE_iff _).2 e)]
theorem sgn_yes {u : ByteArray} (h : 0 < u.size) (e : u[0].toNat = 43 ∨ u[0].toNat = 45) : sgn u.data.toList = u.data.toList.drop 1 := by
  rw [data_at u h]; simp only [sgn]; rw [if_pos e]; rfl
theorem sgn_no {u : ByteArray} (h : ∀ h : 0 < u.size, ¬ (u[0].toNat = 43 ∨ u[0].toNat = 45)) : sgn u.data.toList = u.data.toList := by
  by_cases h0 : 0 < u.size
  · rw [data_at u h0]; simp only [sgn]; rw [if_neg (h h0)]
  · rw [data_nil h0]; rfl

theorem ne_nil {v : ByteArray} (h : 0 < v.size) : (v.toList = []) = False ∧ v.toList.isEmpty = false ∧ (v.toList == []) = false := by
  rw [Lib.toList_data, data_at v h]; simp
theorem is_nil {v : ByteArray} (h : ¬ 0 < v.size) : v.toList = [] := by
  rw [Lib.toList_data, data_nil h]

set_option maxHeartbeats 1000000 in
theorem valid_any (s : ByteArray) (hs : s.size ≤ 1048576) (w : World) :
    Calls Try.prog 5 #[.string s] w fun e w' => e = .returned (.bool (valid s.data.toList)) ∧ Below w.heap.size w w' := by
  obtain ⟨V, hV⟩ : ∃ V, V = valid s.data.toList := ⟨_, rfl⟩
  rw [← hV]
  have HV : Hid (V = valid s.data.toList) := hV
  clear hV
  go_enter Try.func5, Try.ntmps5
  go_wp2_with fail
  refine (trim_any s hs _).mono ?_
  rintro e w' ⟨t, rfl, ht, hw⟩
  obtain rfl := hw.symm
  have hts : t.size ≤ 1048576 := by
    rw [size_of ht]
    have := trim_len s.data.toList
    simp at this
    omega
  have HN : Hid (V = num t.data.toList) := by
    have e := HV.out
    unfold valid at e
    rw [← ht] at e
    exact e
  clear ht HV
  go_wp2_with fail
  refine (digits_any w.heap.size t hts _ (by simp)).mono ?_
  rintro e w' ⟨rfl, hw⟩
  obtain rfl := hw.symm
  have hn := nd_le t.data.toList
  have hn' : nd t.data.toList ≤ t.size := by simpa using hn
  clear hn
  have hz := @num_zero t.data.toList
  have hl := @num_lead t.data.toList
  have hr := @num_rest t.data.toList
  have htd := tail_data t (nd t.data.toList)
  have hps := @nd_pos_size t
  obtain ⟨n, hn⟩ : ∃ n, n = nd t.data.toList := ⟨_, rfl⟩
  rw [← hn] at hn' hz hl hr htd hps ⊢
  have HZ : Hid (n = 0 → num t.data.toList = false) := hz
  have HLd : Hid (¬ n = 0 → (t.data.toList.headD 0).toNat = 48 ∧ 1 < n → num t.data.toList = false) := hl
  have HRs : Hid (¬ n = 0 → ¬ ((t.data.toList.headD 0).toNat = 48 ∧ 1 < n) → num t.data.toList = frac (t.data.toList.drop n)) := hr
  have HTd : Hid ((t.extract n t.size).data.toList = t.data.toList.drop n) := htd
  have HPs : Hid (¬ n = 0 → 0 < t.size) := hps
  clear hz hl hr htd hps hn
  go_upto_region 4 with fail
  go_cut [22] (fun c wc => ∃ b : Bool, c = .bool b ∧ wc = w.alloc (.cells #[.string t] 9) ∧ (b = true → V = false) ∧ (b = false → V = frac (t.data.toList.drop n)))
  case first =>
    by_cases h0 : n = 0
    · have hb : ((n : Int) == 0) = true := by simpa using h0
      have hB : V = false := by rw [HN.out]; exact HZ.out h0
      have HB : Hid (V = false) := hB
      clear h0 hB
      go_wp2
      go_meet
      case rel => exact ⟨true, rfl, rfl, fun _ => HB.out, fun h => by cases h⟩
    · have hb : ((n : Int) == 0) = false := by simpa using h0
      have hsz := HPs.out h0
      have hst : (0 : Int) < (t.size : Int) := by omega
      have he := head_at hsz
      have hl := HLd.out h0
      have hr := HRs.out h0
      rw [he] at hl hr
      have HL2 : Hid (t[0].toNat = 48 ∧ 1 < n → num t.data.toList = false) := hl
      have HR2 : Hid (¬ (t[0].toNat = 48 ∧ 1 < n) → num t.data.toList = frac (t.data.toList.drop n)) := hr
      clear hl hr he h0 HZ HLd HRs HPs
      by_cases h1 : t[0].toNat = 48
      · have hb1 : ((t[0].toNat : Int) == 48) = true := by simp only [beq_iff_eq]; omega
        by_cases h2 : 1 < n
        · have HB : Hid (V = false) := by rw [HN.out]; exact HL2.out ⟨h1, h2⟩
          have hd : decide ((1 : Int) < (n : Int)) = true := decide_eq_true (by omega)
          clear h1
          go_wp2
          go_meet
          case rel => exact ⟨true, rfl, rfl, fun _ => HB.out, fun h => by cases h⟩
        · have HB : Hid (V = frac (t.data.toList.drop n)) := by rw [HN.out]; exact HR2.out (fun h => h2 h.2)
          have hd : decide ((1 : Int) < (n : Int)) = false := decide_eq_false (by omega)
          clear h1
          go_wp2
          go_meet
          case rel => exact ⟨false, rfl, rfl, fun h => (by cases h), fun _ => HB.out⟩
      · have hb1 : ((t[0].toNat : Int) == 48) = false := by simp only [beq_eq_false_iff_ne, ne_eq]; omega
        have HB : Hid (V = frac (t.data.toList.drop n)) := by rw [HN.out]; exact HR2.out (fun h => h1 h.1)
        clear h1
        go_wp2
        go_meet
        case rel => exact ⟨false, rfl, rfl, fun h => (by cases h), fun _ => HB.out⟩
  case rest =>
    obtain ⟨b, rfl, rfl, hb1, hb2⟩ := hcut
    have HB1 : Hid (b = true → V = false) := hb1
    have HB2 : Hid (b = false → V = frac (t.data.toList.drop n)) := hb2
    clear hb1 hb2 HN HZ HLd HRs HPs
    cases b
    case true =>
      have HB : Hid (V = false) := HB1.out rfl
      clear HB1 HB2
      go_wp2
      go_ret
      exact ⟨ret_bool' HB.out.symm, (Below.refl _ _).alloc (Nat.le_refl _) _⟩
    case false =>
      have HF : Hid (V = frac (t.data.toList.drop n)) := HB2.out rfl
      clear HB1 HB2
      go_upto_region 7 with fail
      have hu1 := HTd.out
      have hu2 : (t.extract n t.size).size ≤ 1048576 := drop_size hu1 hts
      obtain ⟨u, hu⟩ : ∃ u, u = t.extract n t.size := ⟨_, rfl⟩
      rw [← hu] at hu1 hu2 ⊢
      have HF : Hid (V = frac u.data.toList) := by rw [hu1]; exact HF.out
      clear hu1 hu HTd hn' hts
      go_cut [5, 6] (fun r ok wc => ∃ (x : ByteArray) (b : Bool), r = .string x ∧ ok = .bool b ∧ wc = w.alloc (.cells #[.string u] 9) ∧ x.size ≤ 1048576 ∧ (b = true → V = if nd x.data.toList = 0 then false else expo (x.data.toList.drop (nd x.data.toList))) ∧ (b = false → V = expo u.data.toList))
      case first =>
        by_cases h : ∃ h0 : 0 < u.size, u[0].toNat = 46
        · obtain ⟨h0, h1⟩ := h
          have HW : Hid _ := HF.out.trans (frac_yes h0 h1)
          have HC : Hid (∀ w : World, Calls Try.prog 9 #[.string u, .string ⟨#[46]⟩] w fun e w' => ∃ t : ByteArray, e = .returned (.tuple #[.string t, .bool true]) ∧ t.data.toList = u.data.toList.drop 1 ∧ w' = w) := fun w => cut_yes u hu2 h0 h1 w
          clear h1
          go_wp2_with fail
          refine (HC.out _).mono ?_
          rintro e w' ⟨x, rfl, hx, hw⟩
          obtain rfl := hw.symm
          have HX : Hid (x.data.toList = u.data.toList.drop 1) := hx
          clear hx
          go_wp2
          go_meet
          case rel => exact ⟨x, true, rfl, rfl, rfl, drop_size HX.out hu2, fun _ => by rw [HX.out]; exact HW.out, fun h => by cases h⟩
        · have h' : ∀ h0 : 0 < u.size, ¬ u[0].toNat = 46 := fun h0 h1 => h ⟨h0, h1⟩
          have HW : Hid _ := HF.out.trans (frac_no h')
          have HC : Hid (∀ w : World, Calls Try.prog 9 #[.string u, .string ⟨#[46]⟩] w fun e w' => e = .returned (.tuple #[.string u, .bool false]) ∧ w' = w) := fun w => cut_no u hu2 h' w
          clear h h'
          go_wp2_with fail
          refine (HC.out _).mono ?_
          rintro e w' ⟨rfl, hw⟩
          obtain rfl := hw.symm
          go_wp2
          go_meet
          case rel => exact ⟨u, false, rfl, rfl, rfl, hu2, fun h => (by cases h), fun _ => HW.out⟩
      case rest =>
        obtain ⟨x, b, rfl, rfl, rfl, hx, hb1, hb2⟩ := hcut
        have HB1 : Hid (b = true → V = if nd x.data.toList = 0 then false else expo (x.data.toList.drop (nd x.data.toList))) := hb1
        have HB2 : Hid (b = false → V = expo u.data.toList) := hb2
        clear hb1 hb2 HF
        go_upto_if 31 with fail
        go_cut [4] (fun _ wc => ∃ v : ByteArray, wc = w.alloc (.cells #[.string v] 9) ∧ v.size ≤ 1048576 ∧ V = expo v.data.toList)
        case first =>
          cases b
          case false =>
            have HB : Hid (V = expo u.data.toList) := HB2.out rfl
            clear HB1 HB2
            go_wp2
            go_meet
            case rel => exact ⟨u, rfl, hu2, HB.out⟩
          case true =>
            have HB : Hid (V = if nd x.data.toList = 0 then false else expo (x.data.toList.drop (nd x.data.toList))) := HB1.out rfl
            clear HB1 HB2
            have hle : nd x.data.toList ≤ x.size := by simpa using nd_le x.data.toList
            go_wp2_with fail
            refine (digits_any w.heap.size x hx _ (by simp)).mono ?_
            rintro e w' ⟨rfl, hw⟩
            obtain rfl := hw.symm
            by_cases h0 : nd x.data.toList = 0
            · have HE : Hid (V = false) := HB.out.trans (if_pos h0)
              have hb : ((nd x.data.toList : Int) == 0) = true := by simpa using h0
              clear h0
              go_wp2
              go_ret
              exact ⟨ret_bool' HE.out.symm, (Below.refl _ _).alloc (Nat.le_refl _) _⟩
            · have HE : Hid (V = expo (x.data.toList.drop (nd x.data.toList))) := HB.out.trans (if_neg h0)
              have hb : ((nd x.data.toList : Int) == 0) = false := by simpa using h0
              have HT2 : Hid _ := tail_data x (nd x.data.toList)
              clear h0
              go_wp2
              go_meet
              case rel => exact ⟨_, rfl, drop_size HT2.out hx, by rw [HT2.out]; exact HE.out⟩
        case rest =>
          obtain ⟨v, rfl, hv, hE⟩ := hcut
          have HE : Hid (V = expo v.data.toList) := hE
          clear hE HB1 HB2 hx hu2
          go_upto_region 14 with fail
          go_cut [51] (fun c wc => ∃ b : Bool, c = .bool b ∧ wc = w.alloc (.cells #[.string v] 9) ∧ (b = true → 0 < v.size ∧ V = expD (sgn (v.data.toList.drop 1))) ∧ (b = false → (v.size = 0 → V = true) ∧ (0 < v.size → V = false)))
          case first =>
            by_cases h0 : 0 < v.size
            · have hst : (0 : Int) < (v.size : Int) := by omega
              obtain ⟨t1, t2, t3⟩ := ne_nil h0
              by_cases h1 : v[0].toNat = 101
              · have hb1 : ((v[0].toNat : Int) == 101) = true := by simp only [beq_iff_eq]; omega
                have HB : Hid (V = expD (sgn (v.data.toList.drop 1))) := HE.out.trans (expo_yes h0 (.inl h1))
                clear h1
                go_wp2
                go_meet
                case rel => exact ⟨true, rfl, rfl, fun _ => ⟨h0, HB.out⟩, fun h => by cases h⟩
              · have hb1 : ((v[0].toNat : Int) == 101) = false := by simp only [beq_eq_false_iff_ne, ne_eq]; omega
                by_cases h2 : v[0].toNat = 69
                · have hb2 : ((v[0].toNat : Int) == 69) = true := by simp only [beq_iff_eq]; omega
                  have HB : Hid (V = expD (sgn (v.data.toList.drop 1))) := HE.out.trans (expo_yes h0 (.inr h2))
                  clear h1 h2
                  go_wp2
                  go_meet
                  case rel => exact ⟨true, rfl, rfl, fun _ => ⟨h0, HB.out⟩, fun h => by cases h⟩
                · have hb2 : ((v[0].toNat : Int) == 69) = false := by simp only [beq_eq_false_iff_ne, ne_eq]; omega
                  have HB : Hid (V = false) := HE.out.trans (expo_no h0 (fun h => h.elim h1 h2))
                  clear h1 h2
                  go_wp2
                  go_meet
                  case rel => exact ⟨false, rfl, rfl, fun h => (by cases h), fun _ => ⟨fun h => (by omega), fun _ => HB.out⟩⟩
            · have t1 := is_nil h0
              have HB : Hid (V = true) := HE.out.trans (expo_nil h0)
              go_wp2
              go_meet
              case rel => exact ⟨false, rfl, rfl, fun h => (by cases h), fun _ => ⟨fun _ => HB.out, fun h => absurd h h0⟩⟩
          case rest =>
            obtain ⟨b, rfl, rfl, hb1, hb2⟩ := hcut
            clear HE
            cases b
            case false =>
              have HB : Hid ((v.size = 0 → V = true) ∧ (0 < v.size → V = false)) := hb2 rfl
              clear hb1 hb2
              by_cases h0 : 0 < v.size
              · obtain ⟨t1, t2, t3⟩ := ne_nil h0
                have HB' : Hid (V = false) := HB.out.2 h0
                go_wp2
                go_ret
                exact ⟨ret_bool' HB'.out.symm, (Below.refl _ _).alloc (Nat.le_refl _) _⟩
              · have t1 := is_nil h0
                have HB' : Hid (V = true) := HB.out.1 (by omega)
                go_wp2
                go_ret
                exact ⟨ret_bool' HB'.out.symm, (Below.refl _ _).alloc (Nat.le_refl _) _⟩
            case true =>
              obtain ⟨h0, hB⟩ := hb1 rfl
              have HB : Hid (V = expD (sgn (v.data.toList.drop 1))) := hB
              have hst : (1 : Int) ≤ (v.size : Int) := by omega
              clear hb1 hb2 hB
              go_upto_region 16 with fail
              have hy1 := tail_data v 1
              have hy2 : (v.extract 1 v.size).size ≤ 1048576 := drop_size hy1 hv
              obtain ⟨y, hy⟩ : ∃ y, y = v.extract 1 v.size := ⟨_, rfl⟩
              rw [← hy] at hy1 hy2 ⊢
              have HS : Hid (V = expD (sgn y.data.toList)) := by rw [hy1]; exact HB.out
              clear hy1 hy HB
              go_cut [65] (fun c wc => ∃ b : Bool, c = .bool b ∧ wc = w.alloc (.cells #[.string y] 9) ∧ (b = true → 0 < y.size ∧ V = expD (y.data.toList.drop 1)) ∧ (b = false → V = expD y.data.toList))
              case first =>
                by_cases h1 : 0 < y.size
                · have hst1 : (0 : Int) < (y.size : Int) := by omega
                  obtain ⟨t1, t2, t3⟩ := ne_nil h1
                  by_cases h2 : y[0].toNat = 43
                  · have hb1 : ((y[0].toNat : Int) == 43) = true := by simp only [beq_iff_eq]; omega
                    have HB : Hid (V = expD (y.data.toList.drop 1)) := by rw [← sgn_yes h1 (.inl h2)]; exact HS.out
                    clear h2
                    go_wp2
                    go_meet
                    case rel => exact ⟨true, rfl, rfl, fun _ => ⟨h1, HB.out⟩, fun h => by cases h⟩
                  · have hb1 : ((y[0].toNat : Int) == 43) = false := by simp only [beq_eq_false_iff_ne, ne_eq]; omega
                    by_cases h3 : y[0].toNat = 45
                    · have hb2 : ((y[0].toNat : Int) == 45) = true := by simp only [beq_iff_eq]; omega
                      have HB : Hid (V = expD (y.data.toList.drop 1)) := by rw [← sgn_yes h1 (.inr h3)]; exact HS.out
                      clear h2 h3
                      go_wp2
                      go_meet
                      case rel => exact ⟨true, rfl, rfl, fun _ => ⟨h1, HB.out⟩, fun h => by cases h⟩
                    · have hb2 : ((y[0].toNat : Int) == 45) = false := by simp only [beq_eq_false_iff_ne, ne_eq]; omega
                      have HB : Hid (V = expD y.data.toList) := by rw [← sgn_no (fun _ h => h.elim h2 h3)]; exact HS.out
                      clear h2 h3
                      go_wp2
                      go_meet
                      case rel => exact ⟨false, rfl, rfl, fun h => (by cases h), fun _ => HB.out⟩
                · have t1 := is_nil h1
                  have HB : Hid (V = expD y.data.toList) := by rw [← sgn_no (fun h _ => h1 h)]; exact HS.out
                  go_wp2
                  go_meet
                  case rel => exact ⟨false, rfl, rfl, fun h => (by cases h), fun _ => HB.out⟩
              case rest =>
                obtain ⟨b, rfl, rfl, hb1, hb2⟩ := hcut
                clear HS
                have HB1 : Hid (b = true → 0 < y.size ∧ V = expD (y.data.toList.drop 1)) := hb1
                have HB2 : Hid (b = false → V = expD y.data.toList) := hb2
                clear hb1 hb2
                go_upto_if 65 with fail
                go_cut [] (fun wc => ∃ z : ByteArray, wc = w.alloc (.cells #[.string z] 9) ∧ z.size ≤ 1048576 ∧ V = expD z.data.toList)
                case first =>
                  cases b
                  case false =>
                    have HB : Hid (V = expD y.data.toList) := HB2.out rfl
                    clear HB1 HB2
                    go_wp2
                    go_meet
                    case rel => exact ⟨y, rfl, hy2, HB.out⟩
                  case true =>
                    obtain ⟨h1, hB⟩ := HB1.out rfl
                    have HB : Hid (V = expD (y.data.toList.drop 1)) := hB
                    have hst1 : (1 : Int) ≤ (y.size : Int) := by omega
                    have HT1 : Hid _ := tail_data y 1
                    clear HB1 HB2 hB
                    go_wp2
                    go_meet
                    case rel => exact ⟨_, rfl, drop_size HT1.out hy2, by rw [HT1.out]; exact HB.out⟩
                case rest =>
                  obtain ⟨z, rfl, hz, hD⟩ := hcut
                  have HB : Hid (V = expD z.data.toList) := hD
                  clear hD HB1 HB2 hy2
                  have hle : nd z.data.toList ≤ z.size := by simpa using nd_le z.data.toList
                  go_wp2_with fail
                  refine (digits_any w.heap.size z hz _ (by simp)).mono ?_
                  rintro e w' ⟨rfl, hw⟩
                  obtain rfl := hw.symm
                  by_cases h1 : nd z.data.toList = 0
                  · have HR : Hid (V = false) := HB.out.trans (if_pos h1)
                    have hb : ((nd z.data.toList : Int) == 0) = true := by simpa using h1
                    clear h1
                    go_wp2
                    go_ret
                    exact ⟨ret_bool' HR.out.symm, (Below.refl _ _).alloc (Nat.le_refl _) _⟩
                  · have HR : Hid (V = (z.data.toList.drop (nd z.data.toList)).isEmpty) := HB.out.trans (if_neg h1)
                    have hb : ((nd z.data.toList : Int) == 0) = false := by simpa using h1
                    have HT1 : Hid _ := tail_data z (nd z.data.toList)
                    clear h1
                    go_wp2
                    go_ret
                    exact ⟨ret_bool' (by rw [Lib.toList_data, HT1.out]; exact HR.out.symm), (Below.refl _ _).alloc (Nat.le_refl _) _⟩
end Go.Proofs.Qxb6603729a
