import Derived.Test.Qxb6605272aWb
/-! The plain law on the last shared seqno: no Go in sight. -/
namespace Go.Proofs.Qxb6605272a
open Go.RowKit

theorem hok_mem {zs : Hs} (hz : HOk zs) {e : Int × Int} (he : e ∈ zs) : 0 ≤ e.2 ∧ e.2 ≤ 18446744073709551614 := by
  obtain ⟨i, hi, rfl⟩ := List.mem_iff_getElem.1 he
  exact hz i hi

/-- Up to the answer every place where a branch begins is shared. -/
theorem fold_shared (xs ys : Hs) (sh : Int) (zs : Hs) (hz : HOk zs) (h0 : 0 ≤ sh) : ∀ e, e ∈ zs → e.2 + 1 ≤ foldS xs ys sh zs → sharedB xs ys (e.2 + 1) = true := by
  induction zs generalizing sh with
  | nil => intro e he; cases he
  | cons z zs ih =>
    intro e he hle
    have hzz := hok_mem hz (List.mem_cons_self)
    have hz' : HOk zs := fun i hi => by have := hz (i + 1) (by simpa using hi); simpa using this
    have e1 : foldS xs ys sh (z :: zs) = foldS xs ys (stepS xs ys sh z) zs := rfl
    rw [e1] at hle
    have hs : 0 ≤ stepS xs ys sh z := by
      unfold stepS
      split
      · exact h0
      · split
        · exact h0
        · exact hzz.1
    rcases List.mem_cons.1 he with rfl | he'
    · have hbd := foldS_bd xs ys (stepS xs ys sh e) zs hz' hs
      have hle' : e.2 + 1 ≤ stepS xs ys sh e := by omega
      unfold stepS at hle'
      split at hle'
      · omega
      · split at hle'
        · assumption
        · omega
    · exact ih (stepS xs ys sh z) hz' hs e he' hle

/-- The answer is high, or a place where a branch begins and behind which they part. -/
theorem fold_where (xs ys : Hs) (sh : Int) (zs : Hs) : foldS xs ys sh zs = sh ∨ ∃ e, e ∈ zs ∧ foldS xs ys sh zs = e.2 ∧ sharedB xs ys (e.2 + 1) = false := by
  induction zs generalizing sh with
  | nil => exact Or.inl rfl
  | cons z zs ih =>
    have e1 : foldS xs ys sh (z :: zs) = foldS xs ys (stepS xs ys sh z) zs := rfl
    rw [e1]
    rcases ih (stepS xs ys sh z) with h | ⟨e, he, h1, h2⟩
    · rw [h]
      unfold stepS
      split
      · exact Or.inl rfl
      · split
        · exact Or.inl rfl
        · rename_i h2
          exact Or.inr ⟨z, List.mem_cons_self, rfl, by simpa using h2⟩
    · exact Or.inr ⟨e, List.mem_cons_of_mem _ he, h1, h2⟩

theorem br_congr (xs : Hs) (s t : Int) (h : ∀ e, e ∈ xs → (e.2 < t ↔ e.2 < s)) : brId xs t = brId xs s ∧ brOk xs t = brOk xs s := by
  induction xs with
  | nil => simp [brId, brOk]
  | cons x xs ih =>
    have h1 := h x List.mem_cons_self
    have h2 := ih (fun e he => h e (List.mem_cons_of_mem _ he))
    simp only [brId, brOk]
    by_cases hx : x.2 < s
    · rw [if_pos (h1.2 hx), if_pos (h1.2 hx), if_pos hx, if_pos hx]; exact ⟨rfl, rfl⟩
    · rw [if_neg (fun hh => hx (h1.1 hh)), if_neg (fun hh => hx (h1.1 hh)), if_neg hx, if_neg hx]; exact h2

theorem br_none (xs : Hs) (t : Int) (h : ∀ e, e ∈ xs → ¬ e.2 < t) : brId xs t = 0 ∧ brOk xs t = false := by
  induction xs with
  | nil => simp [brId, brOk]
  | cons x xs ih =>
    simp only [brId, brOk, if_neg (h x List.mem_cons_self)]
    exact ih (fun e he => h e (List.mem_cons_of_mem _ he))

/-- The last entry that begins before t, if there is one. -/
theorem last_before (zs : Hs) (t : Int) : (∀ e, e ∈ zs → ¬ e.2 < t) ∨ ∃ z, z ∈ zs ∧ z.2 < t ∧ ∀ e, e ∈ zs → e.2 < t → e.2 ≤ z.2 := by
  induction zs with
  | nil => exact Or.inl (fun e he => by cases he)
  | cons x zs ih =>
    by_cases hx : x.2 < t
    · right
      rcases ih with h | ⟨z, hz, hzt, hmax⟩
      · refine ⟨x, List.mem_cons_self, hx, fun e he het => ?_⟩
        rcases List.mem_cons.1 he with rfl | he
        · exact Int.le_refl _
        · exact absurd het (h e he)
      · by_cases hxz : x.2 ≤ z.2
        · refine ⟨z, List.mem_cons_of_mem _ hz, hzt, fun e he het => ?_⟩
          rcases List.mem_cons.1 he with rfl | he
          · exact hxz
          · exact hmax e he het
        · refine ⟨x, List.mem_cons_self, hx, fun e he het => ?_⟩
          rcases List.mem_cons.1 he with rfl | he
          · exact Int.le_refl _
          · have := hmax e he het; omega
    · rcases ih with h | ⟨z, hz, hzt, hmax⟩
      · left
        intro e he
        rcases List.mem_cons.1 he with rfl | he
        · exact hx
        · exact h e he
      · refine Or.inr ⟨z, List.mem_cons_of_mem _ hz, hzt, fun e he het => ?_⟩
        rcases List.mem_cons.1 he with rfl | he
        · exact absurd het hx
        · exact hmax e he het

/-- At the answer itself they agree. -/
theorem fold_agree (xs ys : Hs) (sh : Int) (hx : HOk xs) (hy : HOk ys) (h0 : 0 ≤ sh) (t : Int) (ht : t = foldS xs ys sh (xs ++ ys)) :
    brId xs t = brId ys t ∧ brOk xs t = brOk ys t := by
  have hz : HOk (xs ++ ys) := fun i hi => by
    have hm : (xs ++ ys)[i] ∈ xs ++ ys := List.getElem_mem hi
    rcases List.mem_append.1 hm with h | h
    · exact hok_mem hx h
    · exact hok_mem hy h
  rcases last_before (xs ++ ys) t with h | ⟨z, hz1, hzt, hmax⟩
  · obtain ⟨a1, a2⟩ := br_none xs t (fun e he => h e (List.mem_append.2 (Or.inl he)))
    obtain ⟨b1, b2⟩ := br_none ys t (fun e he => h e (List.mem_append.2 (Or.inr he)))
    rw [a1, a2, b1, b2]
    exact ⟨rfl, rfl⟩
  · have hs := fold_shared xs ys sh (xs ++ ys) hz h0 z hz1 (by omega)
    obtain ⟨a1, a2⟩ := br_congr xs (z.2 + 1) t (fun e he => ⟨fun h => by have := hmax e (List.mem_append.2 (Or.inl he)) h; omega, fun h => by omega⟩)
    obtain ⟨b1, b2⟩ := br_congr ys (z.2 + 1) t (fun e he => ⟨fun h => by have := hmax e (List.mem_append.2 (Or.inr he)) h; omega, fun h => by omega⟩)
    simp only [sharedB, Bool.and_eq_true, beq_iff_eq] at hs
    rw [a1, a2, b1, b2, hs.1.1, hs.1.2, hs.2]
    exact ⟨rfl, rfl⟩

/-- Does an entry begin at q? -/
def hasB (xs : Hs) (q : Int) : Bool := xs.any (fun e => e.2 == q)

theorem hasB_mem {xs : Hs} {e : Int × Int} (he : e ∈ xs) : hasB xs e.2 = true := List.any_eq_true.2 ⟨e, he, by simp⟩
theorem hok_of_has {xs : Hs} (hb : ∀ i (h : i < xs.length), 0 ≤ xs[i].2 ∧ xs[i].2 ≤ 18446744073709551615) (h : hasB xs 18446744073709551615 = false) : HOk xs := by
  intro i hi
  have h1 := hb i hi
  have h2 : ¬ xs[i].2 = 18446744073709551615 := fun e => by
    have := hasB_mem (xs := xs) (List.getElem_mem hi)
    rw [e, h] at this
    cases this
  omega

end Go.Proofs.Qxb6605272a
