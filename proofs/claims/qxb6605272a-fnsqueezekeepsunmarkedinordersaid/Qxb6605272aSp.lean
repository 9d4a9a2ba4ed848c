import Derived.Test.Qxb6605272aSb
/-! The plain side of squeeze: which writes are kept, and what lies where after i rounds. -/
namespace Go.Proofs.Qxb6605272a

/-- The unmarked among the first i, in their order. -/
def keepL (f : Nat → It) : Nat → List It
  | 0 => []
  | i + 1 => keepL f i ++ (if (f i).l != 255 then [f i] else [])

theorem keepL_le (f : Nat → It) (i : Nat) : (keepL f i).length ≤ i := by
  induction i with
  | zero => simp [keepL]
  | succ i ih =>
    simp only [keepL, List.length_append]
    split <;> simp <;> omega

/-- What lies at place p after i rounds. -/
def curL (f : Nat → It) (i p : Nat) : It := if h : p < (keepL f i).length then (keepL f i)[p] else f p

theorem curL_zero (f : Nat → It) (p : Nat) : curL f 0 p = f p := by simp [curL, keepL]
theorem curL_self (f : Nat → It) (i : Nat) : curL f i i = f i := by
  have := keepL_le f i
  unfold curL
  rw [dif_neg (by omega)]
theorem keepL_skip (f : Nat → It) (i : Nat) (h : ((f i).l != 255) = false) : keepL f (i + 1) = keepL f i := by simp [keepL, h]
theorem keepL_take (f : Nat → It) (i : Nat) (h : ((f i).l != 255) = true) : keepL f (i + 1) = keepL f i ++ [f i] := by simp [keepL, h]
theorem curL_skip (f : Nat → It) (i p : Nat) (h : ((f i).l != 255) = false) : curL f (i + 1) p = curL f i p := by
  unfold curL
  simp only [keepL_skip f i h]
theorem curL_take (f : Nat → It) (i p : Nat) (h : ((f i).l != 255) = true) : (if p = (keepL f i).length then f i else curL f i p) = curL f (i + 1) p := by
  unfold curL
  simp only [keepL_take f i h, List.length_append, List.length_singleton]
  by_cases e : p = (keepL f i).length
  · rw [if_pos e, dif_pos (by omega)]
    subst e
    simp
  · rw [if_neg e]
    by_cases e2 : p < (keepL f i).length
    · rw [dif_pos e2, dif_pos (by omega), List.getElem_append_left e2]
    · rw [dif_neg e2, dif_neg (by omega)]

/-- The final layout: the kept first, then nothing. -/
def finL (f : Nat → It) (n q p : Nat) : It := if p < (keepL f n).length then curL f n p else if p < q then It.zero else curL f n p

theorem finL_start (f : Nat → It) (n p : Nat) : curL f n p = finL f n (keepL f n).length p := by
  unfold finL
  by_cases e : p < (keepL f n).length
  · rw [if_pos e]
  · rw [if_neg e, if_neg e]
theorem finL_step (f : Nat → It) (n q p : Nat) (hq : (keepL f n).length ≤ q) : (if p = q then It.zero else finL f n q p) = finL f n (q + 1) p := by
  unfold finL
  by_cases e : p = q
  · subst e; rw [if_pos rfl, if_neg (by omega), if_pos (by omega)]
  · rw [if_neg e]
    by_cases e1 : p < (keepL f n).length
    · rw [if_pos e1, if_pos e1]
    · rw [if_neg e1, if_neg e1]
      by_cases e2 : p < q
      · rw [if_pos e2, if_pos (by omega)]
      · rw [if_neg e2, if_neg (by omega)]
/-- The end's layout. -/
def endL (f : Nat → It) (n x : Nat) : It := if h : x < (keepL f n).length then (keepL f n)[x] else It.zero
theorem finL_end (f : Nat → It) (n x : Nat) (hx : x < n) : finL f n n x = endL f n x := by
  unfold finL endL
  by_cases e : x < (keepL f n).length
  · rw [if_pos e, dif_pos e]; unfold curL; rw [dif_pos e]
  · rw [if_neg e, if_pos hx, dif_neg e]

theorem keepL_unmarked (f : Nat → It) (i : Nat) : ∀ t, t ∈ keepL f i → (t.l != 255) = true := by
  induction i with
  | zero => intro t ht; cases ht
  | succ i ih =>
    intro t ht
    simp only [keepL] at ht
    rcases List.mem_append.1 ht with h | h
    · exact ih t h
    · split at h
      · simp at h; subst h; assumption
      · cases h

/-- Where nothing is marked all is kept. -/
theorem keepL_all (f : Nat → It) (i : Nat) (h : ∀ p, p < i → ((f p).l != 255) = true) : keepL f i = (List.range i).map f := by
  induction i with
  | zero => rfl
  | succ i ih =>
    rw [keepL_take f i (h i (by omega)), ih (fun p hp => h p (by omega)), List.range_succ, List.map_append]
    rfl
end Go.Proofs.Qxb6605272a
