/-
  THE PLAIN LAWS of NextHop: no Go in sight.
-/
namespace Go.Proofs.Qxb6603701a

/-- One entry e: (next, best, ok). -/
def hopStep (self d : Int) (s : Int × Int × Bool) (e : Int) : Int × Int × Bool :=
  if (e - self) % 128 < d ∧ s.2.1 < (e - self) % 128 then (e, (e - self) % 128, true) else s
def hopF (self d : Int) (l : List Int) : Int × Int × Bool := l.foldl (hopStep self d) (0, 0, false)
def hop (self sink : Int) (l : List Int) : Int × Bool :=
  if sink ∈ l then (sink, true) else ((hopF self ((sink - self) % 128) l).1, (hopF self ((sink - self) % 128) l).2.2)

theorem take_next (l : List Int) (k : Nat) (h : k < l.length) : l.take (k + 1) = l.take k ++ [l.getD k 0] := by
  rw [List.take_succ_eq_append_getElem h]; simp [List.getD, h]
theorem hopF_snoc (self d : Int) (l : List Int) (x : Int) : hopF self d (l ++ [x]) = hopStep self d (hopF self d l) x := by
  simp [hopF]
theorem hopF_next (self d : Int) (l : List Int) (k : Nat) (h : k < l.length) : hopF self d (l.take (k + 1)) = hopStep self d (hopF self d (l.take k)) (l.getD k 0) := by
  rw [take_next l k h, hopF_snoc]
theorem hopStep_yes {self d e nx bs : Int} {ok : Bool} (h1 : (e - self) % 128 < d) (h2 : bs < (e - self) % 128) : hopStep self d (nx, bs, ok) e = (e, (e - self) % 128, true) := if_pos ⟨h1, h2⟩
theorem hopStep_no1 {self d e nx bs : Int} {ok : Bool} (h1 : d ≤ (e - self) % 128) : hopStep self d (nx, bs, ok) e = (nx, bs, ok) := if_neg (by simp only; omega)
theorem hopStep_no2 {self d e nx bs : Int} {ok : Bool} (h1 : (e - self) % 128 ≤ bs) : hopStep self d (nx, bs, ok) e = (nx, bs, ok) := if_neg (by simp only; omega)

/-- What the fold holds behind k entries: nothing was found; or next is the first entry at the greatest distance, which is best. -/
theorem hopF_inv (self d : Int) (l : List Int) (k : Nat) (hk : k ≤ l.length) :
    (∀ t, t < k → (l.getD t 0 - self) % 128 < d → (l.getD t 0 - self) % 128 ≤ (hopF self d (l.take k)).2.1) ∧
    ((hopF self d (l.take k) = (0, 0, false)) ∨
     (0 < (hopF self d (l.take k)).2.1 ∧ (hopF self d (l.take k)).2.2 = true ∧ ∃ t, t < k ∧ l.getD t 0 = (hopF self d (l.take k)).1 ∧ (l.getD t 0 - self) % 128 = (hopF self d (l.take k)).2.1 ∧ (hopF self d (l.take k)).2.1 < d ∧ ∀ u, u < t → (l.getD u 0 - self) % 128 ≠ (hopF self d (l.take k)).2.1)) := by
  induction k with
  | zero => exact ⟨fun t ht => by omega, .inl rfl⟩
  | succ k ih =>
    obtain ⟨hA, hB⟩ := ih (by omega)
    rw [hopF_next self d l k (by omega)]
    obtain ⟨⟨nx, bs, ok⟩, hs⟩ : ∃ s, s = hopF self d (l.take k) := ⟨_, rfl⟩
    rw [← hs] at hA hB ⊢
    have hbs : 0 ≤ bs := by
      rcases hB with h | h
      · simp only [Prod.mk.injEq] at h; omega
      · have := h.1; simp only at this; omega
    by_cases hc : (l.getD k 0 - self) % 128 < d ∧ bs < (l.getD k 0 - self) % 128
    · rw [hopStep_yes hc.1 hc.2]
      refine ⟨fun t ht h => ?_, .inr ⟨by simp only; omega, rfl, k, by omega, rfl, rfl, hc.1, fun u hu h => ?_⟩⟩
      · by_cases e : t = k
        · subst e; exact Int.le_refl _
        · have := hA t (by omega) h
          simp only at this ⊢; omega
      · simp only at h
        have := hA u hu (by omega)
        simp only at this; omega
    · have e : hopStep self d (nx, bs, ok) (l.getD k 0) = (nx, bs, ok) := if_neg hc
      rw [e]
      refine ⟨fun t ht h => ?_, ?_⟩
      · by_cases e : t = k
        · subst e; simp only; omega
        · exact hA t (by omega) h
      · rcases hB with h | ⟨h1, h2, t, h3, h4⟩
        · exact .inl h
        · exact .inr ⟨h1, h2, t, by omega, h4⟩

theorem hopF_best_nonneg (self d : Int) (l : List Int) (k : Nat) (hk : k ≤ l.length) : 0 ≤ (hopF self d (l.take k)).2.1 := by
  rcases (hopF_inv self d l k hk).2 with h | h
  · rw [h]; exact Int.le_refl _
  · have := h.1; omega

theorem mem_getD (l : List Int) (x : Int) : x ∈ l ↔ ∃ t, t < l.length ∧ l.getD t 0 = x := by
  constructor
  · intro h
    obtain ⟨t, ht, e⟩ := List.getElem_of_mem h
    exact ⟨t, ht, by simpa [List.getD, ht] using e⟩
  · rintro ⟨t, ht, rfl⟩
    simp [List.getD, ht]
theorem hop_hit {self sink : Int} {l : List Int} (k : Nat) (h : k < l.length) (e : l.getD k 0 = sink) : hop self sink l = (sink, true) :=
  if_pos ((mem_getD l sink).2 ⟨k, h, e⟩)
theorem hop_miss {self sink : Int} {l : List Int} (h : ∀ t, t < l.length → l.getD t 0 ≠ sink) :
    hop self sink l = ((hopF self ((sink - self) % 128) (l.take l.length)).1, (hopF self ((sink - self) % 128) (l.take l.length)).2.2) := by
  rw [List.take_length]
  exact if_neg (fun m => by obtain ⟨t, ht, e⟩ := (mem_getD l sink).1 m; exact h t ht e)
end Go.Proofs.Qxb6603701a
