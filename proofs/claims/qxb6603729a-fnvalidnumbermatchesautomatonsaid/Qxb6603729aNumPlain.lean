/-
  THE PLAIN LAW: the number grammar, read from left to right as ValidNumber does, is what the automaton takes. No Go in sight.
-/
namespace Go.Proofs.Qxb6603729a

def isD (n : Nat) : Bool := decide (48 ≤ n ∧ n ≤ 57)
def isE (n : Nat) : Bool := decide (n = 101 ∨ n = 69)
/-- How many digits stand first. -/
def nd : List UInt8 → Nat
  | [] => 0
  | c :: r => if isD c.toNat = true then nd r + 1 else 0

/-! ### ValidNumber's way -/
def trim : List UInt8 → List UInt8
  | [] => []
  | c :: r => if c.toNat = 45 then r else c :: r
def sgn : List UInt8 → List UInt8
  | [] => []
  | c :: r => if c.toNat = 43 ∨ c.toNat = 45 then r else c :: r
def expD (l : List UInt8) : Bool := if nd l = 0 then false else (l.drop (nd l)).isEmpty
def expo : List UInt8 → Bool
  | [] => true
  | c :: r => if isE c.toNat = true then expD (sgn r) else false
def frac : List UInt8 → Bool
  | [] => true
  | c :: r => if c.toNat = 46 then (if nd r = 0 then false else expo (r.drop (nd r))) else expo (c :: r)
def num (l : List UInt8) : Bool :=
  if nd l = 0 then false else if (l.headD 0).toNat = 48 ∧ 1 < nd l then false else frac (l.drop (nd l))
def valid (l : List UInt8) : Bool := num (trim l)

/-! ### The automaton -/
def astep (st : Int) (n : Nat) : Option Int :=
  if st = 0 then (if n = 45 then some 1 else if n = 48 then some 2 else if 48 ≤ n ∧ n ≤ 57 then some 3 else none)
  else if st = 1 then (if n = 48 then some 2 else if 48 ≤ n ∧ n ≤ 57 then some 3 else none)
  else if st = 2 then (if n = 46 then some 4 else if n = 101 ∨ n = 69 then some 6 else none)
  else if st = 3 then (if 48 ≤ n ∧ n ≤ 57 then some 3 else if n = 46 then some 4 else if n = 101 ∨ n = 69 then some 6 else none)
  else if st = 4 then (if 48 ≤ n ∧ n ≤ 57 then some 5 else none)
  else if st = 5 then (if 48 ≤ n ∧ n ≤ 57 then some 5 else if n = 101 ∨ n = 69 then some 6 else none)
  else if st = 6 then (if n = 43 ∨ n = 45 then some 7 else if 48 ≤ n ∧ n ≤ 57 then some 8 else none)
  else if st = 7 then (if 48 ≤ n ∧ n ≤ 57 then some 8 else none)
  else (if 48 ≤ n ∧ n ≤ 57 then some 8 else none)
def acc (st : Int) : Bool := st == 2 || st == 3 || st == 5 || st == 8
def auto (st : Int) : List UInt8 → Bool
  | [] => acc st
  | c :: r => match astep st c.toNat with
    | none => false
    | some q => auto q r

theorem astep0 (n : Nat) : astep 0 n = (if n = 45 then some 1 else if n = 48 then some 2 else if 48 ≤ n ∧ n ≤ 57 then some 3 else none) := rfl
theorem astep1 (n : Nat) : astep 1 n = (if n = 48 then some 2 else if 48 ≤ n ∧ n ≤ 57 then some 3 else none) := rfl
theorem astep2 (n : Nat) : astep 2 n = (if n = 46 then some 4 else if n = 101 ∨ n = 69 then some 6 else none) := rfl
theorem astep3 (n : Nat) : astep 3 n = (if 48 ≤ n ∧ n ≤ 57 then some 3 else if n = 46 then some 4 else if n = 101 ∨ n = 69 then some 6 else none) := rfl
theorem astep4 (n : Nat) : astep 4 n = (if 48 ≤ n ∧ n ≤ 57 then some 5 else none) := rfl
theorem astep5 (n : Nat) : astep 5 n = (if 48 ≤ n ∧ n ≤ 57 then some 5 else if n = 101 ∨ n = 69 then some 6 else none) := rfl
theorem astep6 (n : Nat) : astep 6 n = (if n = 43 ∨ n = 45 then some 7 else if 48 ≤ n ∧ n ≤ 57 then some 8 else none) := rfl
theorem astep7 (n : Nat) : astep 7 n = (if 48 ≤ n ∧ n ≤ 57 then some 8 else none) := rfl
theorem astep8 (n : Nat) : astep 8 n = (if 48 ≤ n ∧ n ≤ 57 then some 8 else none) := rfl

theorem auto_go {st q : Int} {c : UInt8} {r : List UInt8} (h : astep st c.toNat = some q) : auto st (c :: r) = auto q r := by
  simp only [auto, h]
theorem auto_stop {st : Int} {c : UInt8} {r : List UInt8} (h : astep st c.toNat = none) : auto st (c :: r) = false := by
  simp only [auto, h]

theorem isD_iff (n : Nat) : isD n = true ↔ 48 ≤ n ∧ n ≤ 57 := by simp [isD]
theorem isE_iff (n : Nat) : isE n = true ↔ n = 101 ∨ n = 69 := by simp [isE]

/-! ### They are one -/
theorem nd_cons_yes {c : UInt8} {r : List UInt8} (h : 48 ≤ c.toNat ∧ c.toNat ≤ 57) : nd (c :: r) = nd r + 1 := by
  simp only [nd]; rw [if_pos ((isD_iff _).2 h)]
theorem nd_cons_no {c : UInt8} {r : List UInt8} (h : ¬ (48 ≤ c.toNat ∧ c.toNat ≤ 57)) : nd (c :: r) = 0 := by
  simp only [nd]; rw [if_neg (fun e => h ((isD_iff _).1 e))]

theorem auto8 (l : List UInt8) : auto 8 l = (l.drop (nd l)).isEmpty := by
  induction l with
  | nil => rfl
  | cons c r ih =>
    by_cases h : 48 ≤ c.toNat ∧ c.toNat ≤ 57
    · rw [nd_cons_yes h, List.drop_succ_cons, ← ih]
      exact auto_go (by rw [astep8]; (repeat' split) <;> first | rfl | omega)
    · rw [nd_cons_no h, auto_stop (by rw [astep8]; (repeat' split) <;> first | rfl | omega)]
      rfl
theorem auto7 (l : List UInt8) : auto 7 l = expD l := by
  cases l with
  | nil => rfl
  | cons c r =>
    unfold expD
    by_cases h : 48 ≤ c.toNat ∧ c.toNat ≤ 57
    · rw [nd_cons_yes h, List.drop_succ_cons, ← auto8, if_neg (by omega)]
      exact auto_go (by rw [astep7]; (repeat' split) <;> first | rfl | omega)
    · rw [nd_cons_no h, auto_stop (by rw [astep7]; (repeat' split) <;> first | rfl | omega)]
      rfl
theorem auto6 (l : List UInt8) : auto 6 l = expD (sgn l) := by
  cases l with
  | nil => rfl
  | cons c r =>
    simp only [sgn]
    by_cases hs : c.toNat = 43 ∨ c.toNat = 45
    · rw [if_pos hs, ← auto7]
      exact auto_go (by rw [astep6]; (repeat' split) <;> first | rfl | omega)
    · rw [if_neg hs, ← auto7]
      simp only [auto]
      have e : astep 6 c.toNat = astep 7 c.toNat := by
        rw [astep6, astep7]; (repeat' split) <;> first | rfl | omega
      rw [e]
theorem auto5 (l : List UInt8) : auto 5 l = expo (l.drop (nd l)) := by
  induction l with
  | nil => rfl
  | cons c r ih =>
    by_cases h : 48 ≤ c.toNat ∧ c.toNat ≤ 57
    · rw [nd_cons_yes h, List.drop_succ_cons, ← ih]
      exact auto_go (by rw [astep5]; (repeat' split) <;> first | rfl | omega)
    · rw [nd_cons_no h]
      simp only [List.drop_zero, expo]
      by_cases he : c.toNat = 101 ∨ c.toNat = 69
      · rw [if_pos ((isE_iff _).2 he), ← auto6]
        exact auto_go (by rw [astep5]; (repeat' split) <;> first | rfl | omega)
      · rw [if_neg (fun e => he ((isE_iff _).1 e))]
        exact auto_stop (by rw [astep5]; (repeat' split) <;> first | rfl | omega)
theorem auto4 (l : List UInt8) : auto 4 l = if nd l = 0 then false else expo (l.drop (nd l)) := by
  cases l with
  | nil => rfl
  | cons c r =>
    by_cases h : 48 ≤ c.toNat ∧ c.toNat ≤ 57
    · rw [nd_cons_yes h, List.drop_succ_cons, ← auto5, if_neg (by omega)]
      exact auto_go (by rw [astep4]; (repeat' split) <;> first | rfl | omega)
    · rw [nd_cons_no h, if_pos rfl]
      exact auto_stop (by rw [astep4]; (repeat' split) <;> first | rfl | omega)
theorem frac_cons (c : UInt8) (r : List UInt8) (h : ¬ (48 ≤ c.toNat ∧ c.toNat ≤ 57)) (st : Int) (hst : st = 2 ∨ st = 3) : auto st (c :: r) = frac (c :: r) := by
  simp only [frac]
  by_cases hp : c.toNat = 46
  · rw [if_pos hp, ← auto4]
    exact auto_go (by rcases hst with rfl | rfl <;> first | (rw [astep2]; (repeat' split) <;> first | rfl | omega) | (rw [astep3]; (repeat' split) <;> first | rfl | omega))
  · rw [if_neg hp]
    simp only [expo]
    by_cases he : c.toNat = 101 ∨ c.toNat = 69
    · rw [if_pos ((isE_iff _).2 he), ← auto6]
      exact auto_go (by rcases hst with rfl | rfl <;> first | (rw [astep2]; (repeat' split) <;> first | rfl | omega) | (rw [astep3]; (repeat' split) <;> first | rfl | omega))
    · rw [if_neg (fun e => he ((isE_iff _).1 e))]
      exact auto_stop (by rcases hst with rfl | rfl <;> first | (rw [astep2]; (repeat' split) <;> first | rfl | omega) | (rw [astep3]; (repeat' split) <;> first | rfl | omega))
theorem auto3 (l : List UInt8) : auto 3 l = frac (l.drop (nd l)) := by
  induction l with
  | nil => rfl
  | cons c r ih =>
    by_cases h : 48 ≤ c.toNat ∧ c.toNat ≤ 57
    · rw [nd_cons_yes h, List.drop_succ_cons, ← ih]
      exact auto_go (by rw [astep3]; (repeat' split) <;> first | rfl | omega)
    · rw [nd_cons_no h]
      exact frac_cons c r h 3 (.inr rfl)
theorem auto2 (l : List UInt8) : auto 2 l = if 0 < nd l then false else frac l := by
  cases l with
  | nil => rfl
  | cons c r =>
    by_cases h : 48 ≤ c.toNat ∧ c.toNat ≤ 57
    · rw [nd_cons_yes h, if_pos (by omega)]
      exact auto_stop (by rw [astep2]; (repeat' split) <;> first | rfl | omega)
    · rw [nd_cons_no h, if_neg (by omega)]
      exact frac_cons c r h 2 (.inl rfl)
theorem auto1 (l : List UInt8) : auto 1 l = num l := by
  unfold num
  cases l with
  | nil => rfl
  | cons c r =>
    by_cases h : 48 ≤ c.toNat ∧ c.toNat ≤ 57
    · rw [nd_cons_yes h, List.drop_succ_cons, if_neg (by omega)]
      by_cases hz : c.toNat = 48
      · rw [auto_go (q := 2) (by rw [astep1]; (repeat' split) <;> first | rfl | omega), auto2]
        by_cases hn : 0 < nd r
        · rw [if_pos hn, if_pos (c := ((c :: r).headD 0).toNat = 48 ∧ 1 < nd r + 1) ⟨hz, by omega⟩]
        · rw [if_neg hn, if_neg (c := ((c :: r).headD 0).toNat = 48 ∧ 1 < nd r + 1) (fun e => hn (by omega))]
          have e : nd r = 0 := by omega
          rw [e, List.drop_zero]
      · rw [auto_go (q := 3) (by rw [astep1]; (repeat' split) <;> first | rfl | omega), auto3, if_neg (c := ((c :: r).headD 0).toNat = 48 ∧ 1 < nd r + 1) (fun e => hz e.1)]
    · rw [nd_cons_no h, if_pos rfl]
      exact auto_stop (by rw [astep1]; (repeat' split) <;> first | rfl | omega)
theorem auto0 (l : List UInt8) : auto 0 l = valid l := by
  unfold valid
  cases l with
  | nil => rfl
  | cons c r =>
    simp only [trim]
    by_cases h : c.toNat = 45
    · rw [if_pos h, ← auto1]
      exact auto_go (by rw [astep0]; (repeat' split) <;> first | rfl | omega)
    · rw [if_neg h, ← auto1]
      simp only [auto]
      have e : astep 0 c.toNat = astep 1 c.toNat := by
        rw [astep0, astep1]; (repeat' split) <;> first | rfl | omega
      rw [e]
end Go.Proofs.Qxb6603729a
