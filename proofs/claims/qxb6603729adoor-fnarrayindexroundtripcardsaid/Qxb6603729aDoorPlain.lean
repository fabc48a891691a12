/-
  THE PLAIN LAWS of arrayIndex: decimal texts. No Go in sight.
-/
import Derived.Lib.AtoiAll
namespace Go.Proofs.Qxb6603729aDoor

/-- Reading on from acc. -/
def dstep (acc : Nat) (c : UInt8) : Nat := acc * 10 + (c.toNat - 48)
theorem dstep_eq (acc : Nat) (c : UInt8) : dstep acc c = acc * 10 + (c.toNat - 48) := by unfold dstep; rfl
def decA (acc : Nat) (l : List UInt8) : Nat := l.foldl dstep acc
theorem decA_nil (acc : Nat) : decA acc [] = acc := by simp [decA]
theorem decA_cons' (acc : Nat) (c : UInt8) (r : List UInt8) : decA acc (c :: r) = decA (dstep acc c) r := by simp [decA]
theorem decA_cons (acc : Nat) (c : UInt8) (r : List UInt8) : decA acc (c :: r) = decA (acc * 10 + (c.toNat - 48)) r := by rw [decA_cons', dstep_eq]
def AllD (l : List UInt8) : Prop := ∀ c ∈ l, 48 ≤ c.toNat ∧ c.toNat ≤ 57

theorem step_ge (acc d : Nat) : acc ≤ acc * 10 + d := by omega
theorem decA_ge (l : List UInt8) (acc : Nat) : acc ≤ decA acc l := by
  induction l generalizing acc with
  | nil => rw [decA_nil]; exact Nat.le_refl _
  | cons c r ih => rw [decA_cons]; exact Nat.le_trans (step_ge acc (c.toNat - 48)) (ih (acc * 10 + (c.toNat - 48)))
theorem decA_append (l m : List UInt8) (acc : Nat) : decA acc (l ++ m) = decA (decA acc l) m := by
  simp [decA]

theorem parse_ok (l : List UInt8) (acc : Nat) (hd : AllD l) (h : decA acc l < 18446744073709551616) : Lib.parseUint10 acc l = .ok (decA acc l) := by
  induction l generalizing acc with
  | nil => rw [decA_nil]; rfl
  | cons c r ih =>
    have hc := hd c (by simp)
    have hr : AllD r := fun x hx => hd x (by simp [hx])
    have hge := decA_ge r (acc * 10 + (c.toNat - 48))
    rw [decA_cons] at h ⊢
    have hi := ih (acc * 10 + (c.toNat - 48)) hr h
    simp only [Lib.parseUint10]
    rw [if_pos hc, if_neg (by omega), if_neg (by omega)]
    exact hi
theorem parse_range (l : List UInt8) (acc : Nat) (hd : AllD l) (ha : acc < 18446744073709551616) (h : 18446744073709551616 ≤ decA acc l) : Lib.parseUint10 acc l = .range := by
  induction l generalizing acc with
  | nil => rw [decA_nil] at h; omega
  | cons c r ih =>
    have hc := hd c (by simp)
    have hr : AllD r := fun x hx => hd x (by simp [hx])
    rw [decA_cons] at h
    simp only [Lib.parseUint10]
    rw [if_pos hc]
    by_cases h1 : 1844674407370955162 ≤ acc
    · rw [if_pos h1]
    · rw [if_neg h1]
      by_cases h2 : 18446744073709551616 ≤ acc * 10 + (c.toNat - 48)
      · rw [if_pos h2]
      · rw [if_neg h2]
        exact ih _ hr (by omega) h

theorem atoi_ok (l : List UInt8) (hn : l ≠ []) (hd : AllD l) (h : decA 0 l < 9223372036854775808) : Lib.atoiAll l = .ok (decA 0 l : Int) := by
  match l, hn with
  | c :: r, _ =>
    have hc := hd c (by simp)
    have h43 : ¬ (c.toNat = 43 ∨ c.toNat = 45) := by omega
    have h45 : ¬ c.toNat = 45 := by omega
    simp only [Lib.atoiAll, if_neg h43, Lib.parseMag, if_neg (List.cons_ne_nil c r), parse_ok (c :: r) 0 hd (by omega)]
    rw [if_neg (fun e => by omega), if_neg (fun e => h45 e.1), if_neg h45]
theorem atoi_range (l : List UInt8) (hn : l ≠ []) (hd : AllD l) (h : 9223372036854775808 ≤ decA 0 l) : Lib.atoiAll l = .range := by
  match l, hn with
  | c :: r, _ =>
    have hc := hd c (by simp)
    have h43 : ¬ (c.toNat = 43 ∨ c.toNat = 45) := by omega
    have h45 : ¬ c.toNat = 45 := by omega
    by_cases hb : decA 0 (c :: r) < 18446744073709551616
    · simp only [Lib.atoiAll, if_neg h43, Lib.parseMag, if_neg (List.cons_ne_nil c r), parse_ok (c :: r) 0 hd hb]
      rw [if_pos ⟨h45, h⟩]
    · simp only [Lib.atoiAll, if_neg h43, Lib.parseMag, if_neg (List.cons_ne_nil c r), parse_range (c :: r) 0 hd (by omega) (by omega)]

/-! ### What arrayIndex answers -/
def Lead (l : List UInt8) : Prop := l = [] ∨ ((l.headD 0).toNat = 48 ∧ 1 < l.length)
def AIdx (l : List UInt8) (i : Int) (ok : Bool) : Prop :=
  (Lead l → i = 0 ∧ ok = false) ∧ (¬ Lead l → (¬ AllD l → i = 0 ∧ ok = false) ∧
    (AllD l → (decA 0 l < 9223372036854775808 → i = (decA 0 l : Int) ∧ ok = true) ∧ (9223372036854775808 ≤ decA 0 l → i = 0 ∧ ok = false)))
theorem AIdx_fun {l : List UInt8} {i j : Int} {a b : Bool} (h : AIdx l i a) (k : AIdx l j b) : i = j ∧ a = b := by
  by_cases c1 : Lead l
  · have h1 := h.1 c1
    have h2 := k.1 c1
    exact ⟨h1.1.trans h2.1.symm, h1.2.trans h2.2.symm⟩
  · by_cases c2 : AllD l
    · by_cases c3 : decA 0 l < 9223372036854775808
      · have h1 := ((h.2 c1).2 c2).1 c3
        have h2 := ((k.2 c1).2 c2).1 c3
        exact ⟨h1.1.trans h2.1.symm, h1.2.trans h2.2.symm⟩
      · have h1 := ((h.2 c1).2 c2).2 (by omega)
        have h2 := ((k.2 c1).2 c2).2 (by omega)
        exact ⟨h1.1.trans h2.1.symm, h1.2.trans h2.2.symm⟩
    · have h1 := (h.2 c1).1 c2
      have h2 := (k.2 c1).1 c2
      exact ⟨h1.1.trans h2.1.symm, h1.2.trans h2.2.symm⟩
/-- The three ways to '(0, false)', the one to '(v, true)'. -/
theorem AIdx_lead {l : List UInt8} (h : Lead l) : AIdx l 0 false := ⟨fun _ => ⟨rfl, rfl⟩, fun c => absurd h c⟩
theorem AIdx_not {l : List UInt8} (h : ¬ AllD l) : AIdx l 0 false := ⟨fun _ => ⟨rfl, rfl⟩, fun _ => ⟨fun _ => ⟨rfl, rfl⟩, fun c => absurd c h⟩⟩
theorem AIdx_over {l : List UInt8} (h : AllD l → 9223372036854775808 ≤ decA 0 l) : AIdx l 0 false :=
  ⟨fun _ => ⟨rfl, rfl⟩, fun _ => ⟨fun _ => ⟨rfl, rfl⟩, fun c => ⟨fun k => absurd (h c) (by omega), fun _ => ⟨rfl, rfl⟩⟩⟩⟩
theorem AIdx_yes {l : List UInt8} (h : ¬ Lead l) (hd : AllD l) (hb : decA 0 l < 9223372036854775808) : AIdx l (decA 0 l : Int) true :=
  ⟨fun c => absurd c h, fun _ => ⟨fun c => absurd hd c, fun _ => ⟨fun _ => ⟨rfl, rfl⟩, fun k => absurd hb (by omega)⟩⟩⟩
end Go.Proofs.Qxb6603729aDoor
