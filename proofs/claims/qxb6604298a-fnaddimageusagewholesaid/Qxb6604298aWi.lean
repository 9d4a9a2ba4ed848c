import Derived.Test.Qxb6604298aPlain
import Derived.Test.Qxb6604298aWh
import Derived.LaidEql
/-! Rows of details that are filled one by one. -/
namespace Go.Proofs.Qxb6604298a
open Go.RowKit
set_option maxHeartbeats 1000000
set_option linter.unusedSimpArgs false

theorem Try.size55 : (Try.prog.info? 55).map (fun i => i.size) = some 6 := by kernel_rfl
theorem size_parts {P : Program} {e : TypeId} {n : Nat} (h : (P.info? e).map (fun i => i.size) = some n) : ∃ i, P.info? e = some i ∧ i.size = n := by
  obtain ⟨i, hi, hz⟩ := Option.map_eq_some_iff.1 h
  exact ⟨i, hi, hz⟩

/-- Two pointers into different blocks. -/
theorem eql_ptr_other {P : Program} {w : World} {tp te : TypeId} {j : TypeInfo} {a b : Addr} (hp : P.underlying tp = some (.pointer te)) (hte : P.info? te = some j) (hsz : j.size ≠ 0) (hne : a ≠ b) (ha : Own w a.block) (hb : Own w b.block) :
    (binOp .eql tp (.pointer (some a)) (.pointer (some b))).run P w = .ok (.bool false) w := by
  obtain ⟨ca, ta, ha⟩ := ha
  obtain ⟨cb, tb, hb⟩ := hb
  have h : ∀ d : Nat, (Op.equalIn (d + 1) tp (.pointer (some a)) (.pointer (some b))).run P w = .ok false w := fun d => by
    simp [Op.equalIn, run_underlying hp, sizeOf, typeInfo, hte, hsz, run_sameAddr_other w hne ha hb]
  simp only [binOp]
  simp [Op.equal, Op.maxDepth, h 9999]

theorem eql_ptr_same {P : Program} {w : World} {tp te : TypeId} {j : TypeInfo} (a : Addr) (hp : P.underlying tp = some (.pointer te)) (hte : P.info? te = some j) :
    (binOp .eql tp (.pointer (some a)) (.pointer (some a))).run P w = .ok (.bool true) w := by
  have h : ∀ d : Nat, (Op.equalIn (d + 1) tp (.pointer (some a)) (.pointer (some a))).run P w = .ok true w := fun d => by
    simp [Op.equalIn, run_underlying hp, sizeOf, typeInfo, hte, run_sameAddr_same]
  simp only [binOp]
  simp [Op.equal, Op.maxDepth, h 9999]

/-- Block B has room for n details; the first hold xs. -/
structure Row (w : World) (B n : Nat) (xs : Ds) : Prop where
  there : ∀ j, j < n * 2 → ∃ v, w.cell? ⟨B, j, none⟩ = some v
  loose : ∀ j, w.frozen? ⟨B, j, none⟩ = false
  holds : ∀ i (h : i < xs.length), w.cell? ⟨B, 0 + i * 2, none⟩ = some (.string xs[i].1) ∧ w.cell? ⟨B, 0 + i * 2 + 1, none⟩ = some (.int .i64 xs[i].2)

theorem Row.push {w : World} {B n : Nat} {xs : Ds} (h : Row w B n xs) (hn : xs.length < n) (x : ByteArray × Int) :
    Row ((w.setCell ⟨B, xs.length * 2, none⟩ (.string x.1)).setCell ⟨B, xs.length * 2 + 1, none⟩ (.int .i64 x.2)).drew B n (xs ++ [x]) := by
  obtain ⟨v0, hv0⟩ := h.there (xs.length * 2) (by omega)
  obtain ⟨v1, hv1⟩ := h.there (xs.length * 2 + 1) (by omega)
  obtain ⟨s0, s1, s2⟩ := set2 w B (xs.length * 2) (.string x.1) (.int .i64 x.2) hv0 hv1
  refine ⟨?_, ?_, ?_⟩
  · intro j hj
    by_cases e0 : j = xs.length * 2
    · subst e0; exact ⟨_, s0⟩
    · by_cases e1 : j = xs.length * 2 + 1
      · subst e1; exact ⟨_, s1⟩
      · rw [s2 _ _ (fun _ => ⟨e0, e1⟩)]; exact h.there j hj
  · intro j; simpa using h.loose j
  · intro i hi
    by_cases e : i = xs.length
    · subst e
      rw [Nat.zero_add]
      simpa using ⟨s0, s1⟩
    · have hi' : i < xs.length := by simp at hi; omega
      rw [s2 _ _ (fun _ => by omega), s2 _ _ (fun _ => by omega), List.getElem_append_left hi']
      exact h.holds i hi'

theorem Row.keep {X : List Nat} {w w' : World} {B n : Nat} {xs : Ds} (h : Row w B n xs) (hf : Fr X w w') (hB : B < w.heap.size) (hX : B ∉ X) : Row w' B n xs := by
  refine ⟨fun j hj => ?_, fun j => ?_, fun i hi => ?_⟩
  · rw [hf.cell hB hX]; exact h.there j hj
  · rw [hf.frozen hB hX]; exact h.loose j
  · rw [hf.cell hB hX, hf.cell hB hX]; exact h.holds i hi

theorem Row.det {w : World} {B n : Nat} {xs : Ds} (h : Row w B n xs) : Det w (some ⟨B, 0, none⟩) xs := Or.inr ⟨B, 0, rfl, h.holds⟩


/-- The merged metadata while it is filled: four counts, two slices to come. -/
structure Mg (w : World) (M : Nat) (p c t s : Int) : Prop where
  p : w.cell? ⟨M, 0, none⟩ = some (.int .i64 p)
  c : w.cell? ⟨M, 1, none⟩ = some (.int .i64 c)
  t : w.cell? ⟨M, 2, none⟩ = some (.int .i64 t)
  s : w.cell? ⟨M, 3, none⟩ = some (.int .i64 s)
  pv : w.cell? ⟨M, 4, none⟩ = some (.slice none 0 0)
  cv : w.cell? ⟨M, 5, none⟩ = some (.slice none 0 0)
  loose : ∀ j, w.frozen? ⟨M, j, none⟩ = false

theorem Mg.keep {X : List Nat} {w w' : World} {M : Nat} {p c t s : Int} (h : Mg w M p c t s) (hf : Fr X w w') (hX : M ∉ X) : Mg w' M p c t s := by
  have hM := lt_of_cell h.p
  exact ⟨by rw [hf.cell hM hX]; exact h.p, by rw [hf.cell hM hX]; exact h.c, by rw [hf.cell hM hX]; exact h.t, by rw [hf.cell hM hX]; exact h.s, by rw [hf.cell hM hX]; exact h.pv, by rw [hf.cell hM hX]; exact h.cv,
    fun j => by rw [hf.frozen hM hX]; exact h.loose j⟩

/-- The four stores of one round. -/
theorem Mg.four {w : World} {M : Nat} {p c t s : Int} (h : Mg w M p c t s) (p' c' t' s' : Int) :
    Mg ((((w.setCell ⟨M, 0, none⟩ (.int .i64 p')).setCell ⟨M, 1, none⟩ (.int .i64 c')).setCell ⟨M, 2, none⟩ (.int .i64 t')).setCell ⟨M, 3, none⟩ (.int .i64 s')).drew.drew.drew.drew M p' c' t' s' ∧
    Fr [M] w ((((w.setCell ⟨M, 0, none⟩ (.int .i64 p')).setCell ⟨M, 1, none⟩ (.int .i64 c')).setCell ⟨M, 2, none⟩ (.int .i64 t')).setCell ⟨M, 3, none⟩ (.int .i64 s')).drew.drew.drew.drew := by
  obtain ⟨e0, e1, e2, e3, e4, e5, f⟩ := h
  refine ⟨⟨?_, ?_, ?_, ?_, ?_, ?_, ?_⟩, ?_⟩
  any_goals (simp only [World.cell?_drew])
  any_goals (simp [World.cell?_setCell_other, World.cell?_setCell_same', e0, e1, e2, e3, e4, e5]; done)
  · intro j; simpa using f j
  · exact (((((Fr.refl _ w).setCell (by simp) _).setCell (by simp) _).setCell (by simp) _).setCell (by simp) _).drew.drew.drew.drew

/-- The two slices stored: the merged metadata lies there. -/
theorem Mg.done {w : World} {M P C : Nat} {p c t s : Int} {xs ys : Ds} (h : Mg w M p c t s) (hp : Row w P xs.length xs) (hc : Row w C ys.length ys) (h1 : P ≠ M) (h2 : C ≠ M) (n1 : P < w.heap.size) (n2 : C < w.heap.size) :
    MtAt ((w.setCell ⟨M, 4, none⟩ (.slice (some ⟨P, 0, none⟩) xs.length xs.length)).setCell ⟨M, 5, none⟩ (.slice (some ⟨C, 0, none⟩) ys.length ys.length)) M 0 ⟨p, c, t, s, some ⟨P, 0, none⟩, xs.length, xs, some ⟨C, 0, none⟩, ys.length, ys⟩ ∧
    Fr [M] w ((w.setCell ⟨M, 4, none⟩ (.slice (some ⟨P, 0, none⟩) xs.length xs.length)).setCell ⟨M, 5, none⟩ (.slice (some ⟨C, 0, none⟩) ys.length ys.length)) := by
  have hf : Fr [M] w ((w.setCell ⟨M, 4, none⟩ (.slice (some ⟨P, 0, none⟩) xs.length xs.length)).setCell ⟨M, 5, none⟩ (.slice (some ⟨C, 0, none⟩) ys.length ys.length)) := ((Fr.refl _ w).setCell (by simp) _).setCell (by simp) _
  obtain ⟨e0, e1, e2, e3, e4, e5, f⟩ := h
  refine ⟨⟨?_, ?_, ?_, ?_, ?_, ?_, (hp.keep hf n1 (by simpa using h1)).det, (hc.keep hf n2 (by simpa using h2)).det⟩, hf⟩
  all_goals (simp [World.cell?_setCell_other, World.cell?_setCell_same', e0, e1, e2, e3, e4, e5]; done)

/-- Two rows and a metadata, all new. -/
theorem start3 (w : World) (NP NC : Nat) :
    Row (((w.alloc (.cells (madeCells #[.string ⟨#[]⟩, .int .i64 0] (NP * 2)) 69)).alloc (.cells (madeCells #[.string ⟨#[]⟩, .int .i64 0] (NC * 2)) 69)).alloc (.cells #[.int .i64 0, .int .i64 0, .int .i64 0, .int .i64 0, .slice none 0 0, .slice none 0 0] 64)) w.heap.size NP [] ∧
    Row (((w.alloc (.cells (madeCells #[.string ⟨#[]⟩, .int .i64 0] (NP * 2)) 69)).alloc (.cells (madeCells #[.string ⟨#[]⟩, .int .i64 0] (NC * 2)) 69)).alloc (.cells #[.int .i64 0, .int .i64 0, .int .i64 0, .int .i64 0, .slice none 0 0, .slice none 0 0] 64)) (w.heap.size + 1) NC [] ∧
    Mg (((w.alloc (.cells (madeCells #[.string ⟨#[]⟩, .int .i64 0] (NP * 2)) 69)).alloc (.cells (madeCells #[.string ⟨#[]⟩, .int .i64 0] (NC * 2)) 69)).alloc (.cells #[.int .i64 0, .int .i64 0, .int .i64 0, .int .i64 0, .slice none 0 0, .slice none 0 0] 64)) (w.heap.size + 1 + 1) 0 0 0 0 ∧
    Below w.heap.size w (((w.alloc (.cells (madeCells #[.string ⟨#[]⟩, .int .i64 0] (NP * 2)) 69)).alloc (.cells (madeCells #[.string ⟨#[]⟩, .int .i64 0] (NC * 2)) 69)).alloc (.cells #[.int .i64 0, .int .i64 0, .int .i64 0, .int .i64 0, .slice none 0 0, .slice none 0 0] 64)) := by
  refine ⟨⟨?_, ?_, ?_⟩, ⟨?_, ?_, ?_⟩, ⟨?_, ?_, ?_, ?_, ?_, ?_, ?_⟩, ?_⟩
  · intro j hj; simp [go_sem, size_madeCells, hj]
  · intro j; simp [go_sem]
  · intro i hi; simp at hi
  · intro j hj; simp [go_sem, size_madeCells, hj]
  · intro j; simp [go_sem]
  · intro i hi; simp at hi
  · simp [go_sem]
  · simp [go_sem]
  · simp [go_sem]
  · simp [go_sem]
  · simp [go_sem]
  · simp [go_sem]
  · intro j; simp [go_sem]
  · exact (((Below.refl _ _).alloc (Nat.le_refl _) _).alloc (by simp) _).alloc (by simp; omega) _

/-- A push at the place q. -/
theorem Row.push' {w : World} {B n q : Nat} {xs : Ds} (h : Row w B n xs) (hq : q = xs.length) (hn : q < n) (x : ByteArray × Int) :
    Row ((w.setCell ⟨B, q * 2, none⟩ (.string x.1)).setCell ⟨B, q * 2 + 1, none⟩ (.int .i64 x.2)).drew B n (xs ++ [x]) ∧ Fr [B] w ((w.setCell ⟨B, q * 2, none⟩ (.string x.1)).setCell ⟨B, q * 2 + 1, none⟩ (.int .i64 x.2)).drew := by
  subst hq
  exact ⟨h.push hn x, (((Fr.refl _ w).setCell (by simp) _).setCell (by simp) _).drew⟩
end Go.Proofs.Qxb6604298a
