/-
  ring.Entries (8): the k numbers (p + 2^i) mod n, in new memory.
-/
import Derived.Test.Qxb6603701aSmall
namespace Go.Proofs.Qxb6603701a
open Go.RowKit

def entry (n p : Int) (i : Nat) : Int := (p + pw2 i) % n
/-- The row behind j rounds: j entries, then noughts. -/
def rowAt (n p : Int) (k j : Nat) : List Value := (List.range k).map fun i => if i < j then Value.int .i64 (entry n p i) else Value.int .i64 0
def entries (n p : Int) (k : Nat) : List Value := (List.range k).map fun i => Value.int .i64 (entry n p i)

theorem rowAt_zero (n p : Int) (k : Nat) : (madeCells (Value.int .i64 0).cells (k * 1)).toList = rowAt n p k 0 := by
  have e : (Value.int .i64 0).cells = #[.int .i64 0] := rfl
  rw [e, toList_madeCells_one]
  apply List.ext_getElem
  · simp [rowAt]
  · intro i h1 h2; simp [rowAt]
theorem rowAt_set (n p : Int) (k j : Nat) : (rowAt n p k j).set j (.int .i64 (entry n p j)) = rowAt n p k (j + 1) := by
  apply List.ext_getElem
  · simp [rowAt]
  · intro i h1 h2
    simp only [rowAt, List.getElem_set, List.getElem_map, List.getElem_range]
    by_cases h : j = i
    · subst h; simp
    · by_cases h' : i < j
      · rw [if_neg h, if_pos h', if_pos (by omega)]
      · rw [if_neg h, if_neg h', if_neg (by omega)]
theorem rowAt_all (n p : Int) (k : Nat) : rowAt n p k k = entries n p k := by
  apply List.ext_getElem
  · simp [rowAt, entries]
  · intro i h1 h2
    have : i < k := by simpa [rowAt] using h1
    simp [rowAt, entries, this]
theorem entries_at (n p : Int) (k i : Nat) (h : i < k) : (entries n p k)[i]? = some (.int .i64 (entry n p i)) := by
  simp [entries, h]

theorem Try.info3 : (Try.prog.info? 3).map (fun i => (i.zero, i.size, i.bytes)) = some (some (.int .i64 0), 1, 8) := by kernel_rfl

set_option maxHeartbeats 400000 in
theorem entries_any (n p : Int) (k : Nat) (hn : 1 ≤ n) (hn2 : n ≤ 9223372036854775807) (hp : 0 ≤ p) (hk : k ≤ 63) (hb : ∀ i, i < k → p + pw2 i ≤ 9223372036854775807) (w : World) :
    Calls Try.prog 8 #[.int .i64 n, .int .i64 p, .int .i64 k] w fun e w' => e = .returned (.slice (some ⟨w.heap.size, 0, none⟩) k k) ∧ w'.ownsRow w.heap.size 3 1 (.slice (some ⟨w.heap.size, 0, none⟩) k k) k (entries n p k) ∧ Below w.heap.size w w' := by
  obtain ⟨i0, hi, hz0, hz1, hz2⟩ := info_parts Try.info3
  go_enter Try.func8, Try.ntmps8
  go_wp2_with (first
    | (at_make; refine wpList_make_full _ rfl _ _ 22 rfl w.heap.size 3 i0 (.int .i64 0) 1 Try.underlying22 hi hz0 hz1 .i64 .i64 _ _ k rfl rfl rfl rfl (by rw [hz2]; omega) (by unfold maxLen; omega) (Nat.le_refl _) ?_; intro w0 hown0 hgrow0; rw [rowAt_zero n p k] at hown0))
  have hbel0 : Below w.heap.size w w0 := (Below.refl _ _).grown hgrow0 (Nat.le_refl _) (fun _ h => by cases h)
  clear hgrow0 hi hz0 hz1 hz2
  go_loopw [13] (fun i wr => ∃ j : Nat, j ≤ k ∧ i = .int .i64 j ∧ wr.ownsRow w.heap.size 3 1 (.slice (some ⟨w.heap.size, 0, none⟩) k k) k (rowAt n p k j) ∧ Below w.heap.size w wr) (fun i _ => k - (intOf i).toNat)
  case atStart => exact ⟨0, Nat.zero_le _, rfl, hown0, hbel0⟩
  case round =>
    obtain ⟨j, hj, rfl, hown, hbel⟩ := hrel
    by_cases hlt : j < k
    · have h1 : (1 : Int) ≤ 2 ^ j := pw2_pos j
      have h2 : p + 2 ^ j ≤ 9223372036854775807 := hb j hlt
      have hc : wr.cell? ⟨w.heap.size, j, none⟩ = some (.int .i64 0) := by
        rw [hown.cellAt j (by omega)]; simp [rowAt, hlt]
      have hf := hown.frozenAt j
      have hst := hown.stored j (.int .i64 (entry n p j))
      rw [rowAt_set] at hst
      have H : Hid _ := hst
      clear hst
      go_wp2
      go_roundw
      case rel => exact ⟨j + 1, by omega, by go_num, H.out.1, hbel.setCell (Nat.le_refl _) _⟩
      case measure => simp [intOf]; omega
    · go_wp2
      go_ret
      obtain rfl : j = k := by omega
      rw [rowAt_all] at hown
      exact ⟨rfl, hown, hbel⟩
end Go.Proofs.Qxb6603701a
