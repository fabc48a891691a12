/-
  ring.NextHop (12), cloneInt32s (11), zzBytes (10): what each call does.
-/
import Derived.Test.Qxb6603701aSmall
import Derived.Test.Qxb6603701aHopPlain
import Derived.Lib.SliceRun
namespace Go.Proofs.Qxb6603701a
open Go.RowKit

theorem ret_two {a b : Value} {c d : Value} (h : a = c) (h' : b = d) : Ending.returned (.tuple #[a, b]) = .returned (.tuple #[c, d]) := by rw [h, h']

set_option maxHeartbeats 400000 in
theorem nextHop_nil (self sink : Int) (w : World) :
    Calls Try.prog 12 #[.int .i32 self, .int .i32 sink, .slice none 0 0] w fun e w' => e = .returned (.tuple #[.int .i32 (hop self sink []).1, .bool (hop self sink []).2]) ∧ w' = w := by
  go_enter Try.func12, Try.ntmps12
  go_wp2_with (go_at_call 16; refine (distance_any _ _ _).mono ?_; rintro e w' ⟨rfl, rfl⟩)
  go_loop [6, 7, 9, 18] (fun nx ok bs i => nx = .int .i32 0 ∧ ok = .bool false ∧ bs = .int .i32 0 ∧ i = .int .i64 0) (fun _ _ _ _ => 0)
  case atStart => exact ⟨rfl, rfl, rfl, rfl⟩
  case round =>
    obtain ⟨rfl, rfl, rfl, rfl⟩ := hrel
    go_wp2
    go_ret2
    exact ⟨rfl, rfl⟩

set_option maxHeartbeats 400000 in
theorem nextHop_row (self sink : Int) (b len cap : Nat) (es : List Int) (hl : es.length = len) (hm : len ≤ 9223372036854775807) (w : World)
    (hc : ∀ i, i < len → w.cell? ⟨b, i, none⟩ = some (.int .i32 (es.getD i 0))) :
    Calls Try.prog 12 #[.int .i32 self, .int .i32 sink, .slice (some ⟨b, 0, none⟩) len cap] w fun e w' => e = .returned (.tuple #[.int .i32 (hop self sink es).1, .bool (hop self sink es).2]) ∧ w' = w := by
  have HL : Hid (es.length = len) := hl
  have HC : Hid (∀ i, i < len → w.cell? ⟨b, i, none⟩ = some (.int .i32 (es.getD i 0))) := hc
  clear hl hc
  go_enter Try.func12, Try.ntmps12
  go_wp2_with (go_at_call 16; refine (distance_any _ _ _).mono ?_; rintro e w' ⟨rfl, rfl⟩)
  go_loop [6, 7, 9, 18] (fun nx ok bs i => ∃ (k : Nat) (x y : Int) (z : Bool), k ≤ len ∧ nx = .int .i32 x ∧ ok = .bool z ∧ bs = .int .i32 y ∧ i = .int .i64 k ∧ (∀ t, t < k → es.getD t 0 ≠ sink) ∧ hopF self ((sink - self) % 128) (es.take k) = (x, y, z)) (fun _ _ _ i => len - (intOf i).toNat)
  case atStart => exact ⟨0, 0, 0, false, Nat.zero_le _, rfl, rfl, rfl, rfl, fun t ht => by omega, rfl⟩
  case round =>
    obtain ⟨k, x, y, z, hk, rfl, rfl, rfl, rfl, hne, hF⟩ := hrel
    have HN : Hid (∀ t, t < k → es.getD t 0 ≠ sink) := hne
    have HF : Hid (hopF self ((sink - self) % 128) (es.take k) = (x, y, z)) := hF
    clear hne hF
    by_cases hlt : k < len
    · obtain ⟨e, he⟩ : ∃ e, e = es.getD k 0 := ⟨_, rfl⟩
      have hcell := HC.out k hlt
      rw [← he] at hcell
      have HE : Hid (e = es.getD k 0) := he
      clear he
      have hlt' : (k : Int) < (len : Int) := by omega
      by_cases hs : e = sink
      · have hb : (e == sink) = true := by simpa using hs
        have HS : Hid (e = sink) := hs
        clear hs
        go_wp2
        go_ret2
        have R := hop_hit (self := self) (sink := sink) (l := es) k (by rw [HL.out]; exact hlt) (by rw [← HE.out]; exact HS.out)
        exact ⟨by rw [R]; rfl, rfl⟩
      · have hb : (e == sink) = false := by simpa using hs
        have HN' : Hid (∀ t, t < k + 1 → es.getD t 0 ≠ sink) := fun t ht => by
          by_cases h : t = k
          · subst h; rw [← HE.out]; exact hs
          · exact HN.out t (by omega)
        have HX : Hid (hopF self ((sink - self) % 128) (es.take (k + 1)) = hopStep self ((sink - self) % 128) (x, y, z) e) := by
          have h := hopF_next self ((sink - self) % 128) es k (by rw [HL.out]; exact hlt)
          rw [HF.out, ← HE.out] at h
          exact h
        clear hs HN HF
        by_cases c1 : (e - self) % 128 < (sink - self) % 128
        · by_cases c2 : y < (e - self) % 128
          · go_wp2_with (go_at_call 16; refine (distance_any _ _ _).mono ?_; rintro e w' ⟨rfl, rfl⟩)
            go_round
            case rel => exact ⟨k + 1, _, _, _, by omega, rfl, rfl, rfl, by go_num, HN'.out, by rw [HX.out, hopStep_yes c1 c2]⟩
            case measure => simp [intOf]; omega
          · go_wp2_with (go_at_call 16; refine (distance_any _ _ _).mono ?_; rintro e w' ⟨rfl, rfl⟩)
            go_round
            case rel => exact ⟨k + 1, _, _, _, by omega, rfl, rfl, rfl, by go_num, HN'.out, by rw [HX.out, hopStep_no2 (by omega)]⟩
            case measure => simp [intOf]; omega
        · go_wp2_with (go_at_call 16; refine (distance_any _ _ _).mono ?_; rintro e w' ⟨rfl, rfl⟩)
          go_round
          case rel => exact ⟨k + 1, _, _, _, by omega, rfl, rfl, rfl, by go_num, HN'.out, by rw [HX.out, hopStep_no1 (by omega)]⟩
          case measure => simp [intOf]; omega
    · go_wp2
      go_ret2
      obtain rfl : k = len := by omega
      have R := hop_miss (self := self) (sink := sink) (l := es) (by rw [HL.out]; exact HN.out)
      rw [HL.out, HF.out] at R
      exact ⟨by rw [R]; rfl, rfl⟩

/-! ### zzBytes: is the length at most 2^20? -/
set_option maxHeartbeats 400000 in
theorem zzBytes_yes (self sink : Int) (a : Option Addr) (len cap : Nat) (h : len ≤ 1048576) (w : World) :
    Calls Try.prog 10 #[.int .i32 self, .int .i32 sink, .slice a len cap] w fun e w' => e = .returned (.bool true) ∧ w' = w := by
  go_enter Try.func10, Try.ntmps10
  go_wp2
  go_ret
  exact ⟨rfl, rfl⟩
set_option maxHeartbeats 400000 in
theorem zzBytes_no (self sink : Int) (a : Option Addr) (len cap : Nat) (h : 1048576 < len) (w : World) :
    Calls Try.prog 10 #[.int .i32 self, .int .i32 sink, .slice a len cap] w fun e w' => e = .returned (.bool false) ∧ w' = w := by
  go_enter Try.func10, Try.ntmps10
  go_wp2
  go_ret
  exact ⟨rfl, rfl⟩

/-! ### cloneInt32s: a copy in new memory -/
/-- The row behind j rounds: j elements, then noughts. -/
def cloneAt (es : List Int) (k j : Nat) : List Value := (List.range k).map fun i => if i < j then Value.int .i32 (es.getD i 0) else Value.int .i32 0
theorem cloneAt_zero (es : List Int) (k : Nat) : (madeCells (Value.int .i32 0).cells (k * 1)).toList = cloneAt es k 0 := by
  have e : (Value.int .i32 0).cells = #[.int .i32 0] := rfl
  rw [e, toList_madeCells_one]
  apply List.ext_getElem
  · simp [cloneAt]
  · intro i h1 h2; simp [cloneAt]
theorem cloneAt_set (es : List Int) (k j : Nat) : (cloneAt es k j).set j (.int .i32 (es.getD j 0)) = cloneAt es k (j + 1) := by
  apply List.ext_getElem
  · simp [cloneAt]
  · intro i h1 h2
    simp only [cloneAt, List.getElem_set, List.getElem_map, List.getElem_range]
    by_cases h : j = i
    · subst h; simp
    · by_cases h' : i < j
      · rw [if_neg h, if_pos h', if_pos (by omega)]
      · rw [if_neg h, if_neg h', if_neg (by omega)]
theorem cloneAt_at (es : List Int) (k i : Nat) (h : i < k) : (cloneAt es k k)[i]? = some (.int .i32 (es.getD i 0)) := by
  simp [cloneAt, h]

theorem Try.info21 : (Try.prog.info? 21).map (fun i => (i.zero, i.size, i.bytes)) = some (some (.int .i32 0), 1, 4) := by kernel_rfl

set_option maxHeartbeats 400000 in
theorem clone_nil (w : World) :
    Calls Try.prog 11 #[.slice none 0 0] w fun e w' => e = .returned (.slice none 0 0) ∧ w' = w := by
  have q26 : ∀ (w : World) (a : Option Addr) (n c n' c' : Nat), (binOp .eql 26 (.slice a n c) (.slice none n' c')).run Try.prog w = .ok (.bool a.isNone) w := fun w a n c n' c' => Lib.run_eql_slice_nil w _ _ a n c n' c' Try.underlying26
  go_enter Try.func11, Try.ntmps11
  go_wp2
  go_ret
  exact ⟨rfl, rfl⟩

set_option maxHeartbeats 400000 in
theorem clone_row (x : Addr) (len cap : Nat) (es : List Int) (hm : len ≤ 131072) (w : World)
    (hc : ∀ i, i < len → w.cell? (x.add i) = some (.int .i32 (es.getD i 0))) :
    Calls Try.prog 11 #[.slice (some x) len cap] w fun e w' => e = .returned (.slice (some ⟨w.heap.size, 0, none⟩) len len) ∧ (∀ i, i < len → w'.cell? ⟨w.heap.size, i, none⟩ = some (.int .i32 (es.getD i 0))) ∧ Below w.heap.size w w' := by
  have q26 : ∀ (w : World) (a : Option Addr) (n c n' c' : Nat), (binOp .eql 26 (.slice a n c) (.slice none n' c')).run Try.prog w = .ok (.bool a.isNone) w := fun w a n c n' c' => Lib.run_eql_slice_nil w _ _ a n c n' c' Try.underlying26
  have HC : Hid (∀ i, i < len → w.cell? (x.add i) = some (.int .i32 (es.getD i 0))) := hc
  clear hc
  obtain ⟨i0, hi, hz0, hz1, hz2⟩ := info_parts Try.info21
  go_enter Try.func11, Try.ntmps11
  go_wp2_with (first
    | (at_make; refine wpList_make_full _ rfl _ _ 26 rfl w.heap.size 21 i0 (.int .i32 0) 1 Try.underlying26 hi hz0 hz1 .i64 .i64 _ _ len rfl rfl rfl rfl (by rw [hz2]; omega) (by unfold maxLen; omega) (Nat.le_refl _) ?_; intro w0 hown0 hgrow0; rw [cloneAt_zero es len] at hown0))
  have hbel0 : Below w.heap.size w w0 := (Below.refl _ _).grown hgrow0 (Nat.le_refl _) (fun _ h => by cases h)
  clear hgrow0 hi hz0 hz1 hz2
  go_loopw [4] (fun i wr => ∃ j : Nat, j ≤ len ∧ i = .int .i64 j ∧ wr.ownsRow w.heap.size 21 1 (.slice (some ⟨w.heap.size, 0, none⟩) len len) len (cloneAt es len j) ∧ Below w.heap.size w wr) (fun i _ => len - (intOf i).toNat)
  case atStart => exact ⟨0, Nat.zero_le _, rfl, hown0, hbel0⟩
  case round =>
    obtain ⟨j, hj, rfl, hown, hbel⟩ := hrel
    by_cases hlt : j < len
    · obtain ⟨b, off, spot⟩ := x
      have hs := HC.out j hlt
      have hspot : spot = none := by simpa [Addr.add] using World.cell?_spot (HC.out 0 (by omega))
      subst hspot
      have ea : (⟨b, off, none⟩ : Addr).add j = ⟨b, off + j, none⟩ := by
        unfold Addr.add; split
        · subst j; rfl
        · rfl
      rw [ea] at hs
      have hs' : wr.cell? ⟨b, off + j, none⟩ = some (.int .i32 (es.getD j 0)) := cell_later hbel hs
      obtain ⟨e, he⟩ : ∃ e, e = es.getD j 0 := ⟨_, rfl⟩
      have hc : wr.cell? ⟨w.heap.size, j, none⟩ = some (.int .i32 0) := by
        rw [hown.cellAt j (by omega)]; simp [cloneAt, hlt]
      have hf := hown.frozenAt j
      have hst := hown.stored j (.int .i32 (es.getD j 0))
      rw [cloneAt_set] at hst
      rw [← he] at hst hs'
      have H : Hid _ := hst
      clear hst hs he
      go_wp2
      go_roundw
      case rel => exact ⟨j + 1, by omega, by go_num, H.out.1, hbel.setCell (Nat.le_refl _) _⟩
      case measure => simp [intOf]; omega
    · go_wp2
      go_ret
      obtain rfl : j = len := by omega
      exact ⟨rfl, fun i hi => by rw [hown.cellAt i (by omega), cloneAt_at es j i hi], hbel⟩
end Go.Proofs.Qxb6603701a
