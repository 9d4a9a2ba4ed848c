import Derived.Test.Qxb6605272aWb
import Derived.Deep.RegionLaw
import Derived.ArgAppend
/-! Rows of history entries that are filled by append within their capacity. -/
namespace Go.Proofs.Qxb6605272a
open Go.RowKit
set_option maxHeartbeats 1000000

theorem Try.info35 : (Try.prog.info? 35).map (fun i => (i.zero, i.size, i.bytes)) = some (some (.agg #[.int .u64 0, .int .u64 0]), 2, 16) := by kernel_rfl

/-- append WHERE THERE IS ROOM, at a plain region's list. -/
theorem wpList_room {P : Program} (w : World) {ops : Array Oper} {rest : List Oper} {o : Oper} {a : Act} {Q : Exit → Act → World → Prop}
    (hg : o.guard = none) (s x : Operand) (t : TypeId) (hop : o.op = Op.call { callee := Callee.builtin Builtin.append, args := #[s, x], argTypes := #[t, t] })
    (e : TypeId) (i : TypeInfo) (size : Nat) (h1 : P.underlying t = some (.slice e)) (h2 : P.info? e = some i) (h4 : i.size = size)
    (b off n cap : Nat) (hs : a.eval s = .slice (some ⟨b, off, none⟩) n cap)
    (ad : Addr) (m c : Nat) (news : List Value) (hx : a.eval x = .slice (some ad) m c) (hn : news.length = m * size) (hc : ∀ j u, news[j]? = some u → w.cell? (ad.add j) = some u) (h1c : ∀ u ∈ news, u.oneCell' = true)
    (hroom : n + m ≤ cap) (hspare : ∀ j, j < news.length → (w.cell? ⟨b, off + n * size + j, none⟩).isSome = true ∧ w.frozen? ⟨b, off + n * size + j, none⟩ = false)
    (hK : wpList P ops Q rest (a.put o.dst (.slice (some ⟨b, off, none⟩) (n + m) cap)) (w.setCells b (off + n * size) news)) :
    wpList P ops Q (o :: rest) a w := by
  refine wpList_plain hg fun K hK' => ?_
  subst h4
  have hrun := run_append_room_cells (P := P) w t o.type e i h1 h2 b off n cap ad m c news hn hc h1c hroom (fun j hj => (hspare j hj).1) (fun j hj => (hspare j hj).2)
  unfold Oper.wp
  simp [execOp, hop, resolve, invoke, builtin, hs, hx, hrun, Result.andThen]
  exact hK' _ _ hK

/-- Block B has room for n entries; the first hold xs. -/
structure HRow (w : World) (B n : Nat) (xs : Hs) : Prop where
  there : ∀ j, j < n * 2 → ∃ v, w.cell? ⟨B, j, none⟩ = some v
  loose : ∀ j, w.frozen? ⟨B, j, none⟩ = false
  holds : ∀ i (h : i < xs.length), w.cell? ⟨B, 0 + i * 2, none⟩ = some (.int .u64 xs[i].1) ∧ w.cell? ⟨B, 0 + i * 2 + 1, none⟩ = some (.int .u64 xs[i].2)

theorem HRow.keep {X : List Nat} {w w' : World} {B n : Nat} {xs : Hs} (h : HRow w B n xs) (hf : Fr X w w') (hB : B < w.heap.size) (hX : B ∉ X) : HRow w' B n xs := by
  refine ⟨fun j hj => ?_, fun j => ?_, fun i hi => ?_⟩
  · rw [hf.cell hB hX]; exact h.there j hj
  · rw [hf.frozen hB hX]; exact h.loose j
  · rw [hf.cell hB hX, hf.cell hB hX]; exact h.holds i hi
theorem HRow.hist {w : World} {B n : Nat} {xs : Hs} (h : HRow w B n xs) : Hist w (some ⟨B, 0, none⟩) xs := Or.inr ⟨B, 0, rfl, h.holds⟩

theorem Fr.setCells {X : List Nat} {B : Nat} (hB : B ∈ X) : ∀ (vs : List Value) (o : Nat) {a b : World}, Fr X a b → Fr X a (b.setCells B o vs)
  | [], _, _, _, h => h
  | v :: vs, o, _, _, h => Fr.setCells hB vs (o + 1) (h.setCell hB v)

theorem HRow.push {w : World} {B n q : Nat} {xs : Hs} (h : HRow w B n xs) (hq : q = xs.length) (hn : q < n) (x : Int × Int) :
    HRow (w.setCells B (0 + q * 2) [.int .u64 x.1, .int .u64 x.2]) B n (xs ++ [x]) := by
  subst hq
  have hin := World.cell?_setCells_in B [.int .u64 x.1, .int .u64 x.2] (0 + xs.length * 2) w (fun j hj => by obtain ⟨v, hv⟩ := h.there (0 + xs.length * 2 + j) (by simp at hj; omega); rw [hv]; rfl)
  have hout := fun i (hi : i < xs.length * 2 ∨ xs.length * 2 + 2 ≤ i) => World.cell?_setCells_out B [.int .u64 x.1, .int .u64 x.2] (0 + xs.length * 2) w ⟨B, i, none⟩ (fun _ _ => by simp; omega)
  refine ⟨?_, ?_, ?_⟩
  · intro j hj
    by_cases e0 : j < xs.length * 2 ∨ xs.length * 2 + 2 ≤ j
    · rw [hout j e0]; exact h.there j hj
    · have := hin (j - xs.length * 2) (by simp; omega)
      rw [show 0 + xs.length * 2 + (j - xs.length * 2) = j by omega] at this
      exact ⟨_, this⟩
  · intro j; rw [World.frozen?_setCells]; exact h.loose j
  · intro i hi
    by_cases e : i = xs.length
    · subst e
      have h0 := hin 0 (by simp)
      have h1 := hin 1 (by simp)
      simp only [Nat.add_zero, List.getElem_cons_zero, List.getElem_cons_succ] at h0 h1
      refine ⟨?_, ?_⟩
      · simpa using h0
      · simpa using h1
    · have hi' : i < xs.length := by simp at hi; omega
      rw [hout _ (by omega), hout _ (by omega), List.getElem_append_left hi']
      exact h.holds i hi'

theorem one2 (x y : Int) : ∀ u ∈ [Value.int .u64 x, .int .u64 y], u.oneCell' = true := by
  intro u hu
  simp at hu
  rcases hu with rfl | rfl <;> rfl
theorem news2 (W : World) (x y : Int) (t : TypeId) : ∀ j u, [Value.int .u64 x, .int .u64 y][j]? = some u → (W.alloc (.cells #[.int .u64 x, .int .u64 y] t)).cell? ((⟨W.heap.size, 0, none⟩ : Addr).add j) = some u := by
  intro j u hj
  match j, hj with
  | 0, hj => simp at hj; subst hj; simp [Addr.add]
  | 1, hj => simp at hj; subst hj; simp [Addr.add]
theorem news2d (W : World) (x y : Int) (t : TypeId) : ∀ j u, [Value.int .u64 x, .int .u64 y][j]? = some u → (W.alloc (.cells #[.int .u64 x, .int .u64 y] t)).drew.cell? ((⟨W.heap.size, 0, none⟩ : Addr).add j) = some u := news2 W x y t
theorem spare2 {W : World} {B n q : Nat} {xs : Hs} (h : HRow W B n xs) (hB : B < W.heap.size) (hn : q < n) (o : Obj) (x y : Int) :
    ∀ j, j < [Value.int .u64 x, .int .u64 y].length → ((W.alloc o).cell? ⟨B, 0 + q * 2 + j, none⟩).isSome = true ∧ (W.alloc o).frozen? ⟨B, 0 + q * 2 + j, none⟩ = false := by
  intro j hj
  simp at hj
  obtain ⟨v, hv⟩ := h.there (0 + q * 2 + j) (by omega)
  rw [World.cell?_alloc_past _ _ _ hB, World.frozen?_alloc_past _ _ _ hB, hv]
  exact ⟨rfl, h.loose _⟩
theorem spare2d {W : World} {B n q : Nat} {xs : Hs} (h : HRow W B n xs) (hB : B < W.heap.size) (hn : q < n) (o : Obj) (x y : Int) :
    ∀ j, j < [Value.int .u64 x, .int .u64 y].length → ((W.alloc o).drew.cell? ⟨B, 0 + q * 2 + j, none⟩).isSome = true ∧ (W.alloc o).drew.frozen? ⟨B, 0 + q * 2 + j, none⟩ = false := spare2 h hB hn o x y

/-- What an append within the capacity leaves. -/
theorem HRow.after {W : World} {B n q : Nat} {xs : Hs} (h : HRow W B n xs) (hB : B < W.heap.size) (hq : q = xs.length) (hn : q < n) (o : Obj) (x : Int × Int) :
    HRow ((W.alloc o).setCells B (0 + q * 2) [.int .u64 x.1, .int .u64 x.2]) B n (xs ++ [x]) ∧ Fr [B] W ((W.alloc o).setCells B (0 + q * 2) [.int .u64 x.1, .int .u64 x.2]) :=
  ⟨(h.keep (X := []) ((Fr.refl _ _).alloc o) hB (by simp)).push hq hn x, Fr.setCells (by simp) _ _ ((Fr.refl _ _).alloc o)⟩

theorem HRow.afterd {W : World} {B n q : Nat} {xs : Hs} (h : HRow W B n xs) (hB : B < W.heap.size) (hq : q = xs.length) (hn : q < n) (o : Obj) (x : Int × Int) :
    HRow ((W.alloc o).drew.setCells B (q * 2) [.int .u64 x.1, .int .u64 x.2]) B n (xs ++ [x]) ∧ Fr [B] W ((W.alloc o).drew.setCells B (q * 2) [.int .u64 x.1, .int .u64 x.2]) := by
  have h1 := (h.keep (X := []) ((Fr.refl _ _).alloc o).drew hB (by simp)).push hq hn x
  have h2 : Fr [B] W ((W.alloc o).drew.setCells B (q * 2) [.int .u64 x.1, .int .u64 x.2]) := Fr.setCells (by simp) _ _ ((Fr.refl _ _).alloc o).drew
  rw [Nat.zero_add] at h1
  exact ⟨h1, h2⟩

/-- Two rows, all new. -/
theorem start2 (w : World) (n : Nat) :
    HRow ((w.alloc (.cells (madeCells #[.int .u64 0, .int .u64 0] (n * 2)) 35)).alloc (.cells (madeCells #[.int .u64 0, .int .u64 0] (n * 2)) 35)) w.heap.size n [] ∧
    HRow ((w.alloc (.cells (madeCells #[.int .u64 0, .int .u64 0] (n * 2)) 35)).alloc (.cells (madeCells #[.int .u64 0, .int .u64 0] (n * 2)) 35)) (w.heap.size + 1) n [] ∧
    Below w.heap.size w ((w.alloc (.cells (madeCells #[.int .u64 0, .int .u64 0] (n * 2)) 35)).alloc (.cells (madeCells #[.int .u64 0, .int .u64 0] (n * 2)) 35)) ∧
    w.heap.size + 1 < ((w.alloc (.cells (madeCells #[.int .u64 0, .int .u64 0] (n * 2)) 35)).alloc (.cells (madeCells #[.int .u64 0, .int .u64 0] (n * 2)) 35)).heap.size := by
  refine ⟨⟨?_, ?_, ?_⟩, ⟨?_, ?_, ?_⟩, ?_, ?_⟩
  · intro j hj; simp [size_madeCells, hj]
  · intro j; simp
  · intro i hi; simp at hi
  · intro j hj; simp [size_madeCells, hj]
  · intro j; simp
  · intro i hi; simp at hi
  · exact ((Below.refl _ _).alloc (Nat.le_refl _) _).alloc (by simp) _
  · simp
end Go.Proofs.Qxb6605272a
