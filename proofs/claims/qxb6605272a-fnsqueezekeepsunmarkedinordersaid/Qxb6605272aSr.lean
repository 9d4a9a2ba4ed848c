import Derived.Test.Qxb6605272aSq
/-! itemAt (30), ZZMakeSettled (26), ZZSqueeze (27), ZZSettledParts (28). -/
namespace Go.Proofs.Qxb6605272a
open Go.RowKit
set_option maxHeartbeats 4000000
set_option maxRecDepth 100000

/-- A slice whose elements are one cell each. -/
def Vec (w : World) (a : Option Addr) (n : Nat) (g : Nat → Value) : Prop := n = 0 ∨ ∃ b off, a = some ⟨b, off, none⟩ ∧ ∀ i, i < n → w.cell? ⟨b, off + i, none⟩ = some (g i)

theorem Vec.grown {w w' : World} {a : Option Addr} {n : Nat} {g : Nat → Value} (hb : Below w.heap.size w w') (h : Vec w a n g) : Vec w' a n g := by
  rcases h with h | ⟨b, off, ha, hc⟩
  · exact Or.inl h
  · exact Or.inr ⟨b, off, ha, fun i hi => cell_grown hb (hc i hi)⟩

/-- Five slices hold the writes F. -/
structure In5 (w : World) (a1 a2 a3 a4 a5 : Option Addr) (n : Nat) (F : Nat → It) : Prop where
  s : Vec w a1 n (fun i => .int .u64 (F i).s)
  k : Vec w a2 n (fun i => .string (F i).k)
  v : Vec w a3 n (fun i => .string (F i).v)
  l : Vec w a4 n (fun i => .int .u8 (F i).l)
  r : Vec w a5 n (fun i => .int .u64 (F i).r)

theorem In5.grown {w w' : World} {a1 a2 a3 a4 a5 : Option Addr} {n : Nat} {F : Nat → It} (hb : Below w.heap.size w w') (h : In5 w a1 a2 a3 a4 a5 n F) : In5 w' a1 a2 a3 a4 a5 n F :=
  ⟨h.s.grown hb, h.k.grown hb, h.v.grown hb, h.l.grown hb, h.r.grown hb⟩

/-- The value of a write. -/
def It.val (t : It) : Value := .agg #[.int .u64 t.s, .string t.k, .string t.v, .int .u8 t.l, .int .u64 t.r]

theorem s5_grow {W W' : World} {b1 o1 b2 o2 b3 o3 b4 o4 b5 o5 : Nat} {x1 x2 x3 x4 x5 : Value}
    (h : W.cell? ⟨b1, o1, none⟩ = some x1 ∧ W.cell? ⟨b2, o2, none⟩ = some x2 ∧ W.cell? ⟨b3, o3, none⟩ = some x3 ∧ W.cell? ⟨b4, o4, none⟩ = some x4 ∧ W.cell? ⟨b5, o5, none⟩ = some x5) (hb : Below W.heap.size W W') :
    W'.cell? ⟨b1, o1, none⟩ = some x1 ∧ W'.cell? ⟨b2, o2, none⟩ = some x2 ∧ W'.cell? ⟨b3, o3, none⟩ = some x3 ∧ W'.cell? ⟨b4, o4, none⟩ = some x4 ∧ W'.cell? ⟨b5, o5, none⟩ = some x5 :=
  ⟨cell_grown hb h.1, cell_grown hb h.2.1, cell_grown hb h.2.2.1, cell_grown hb h.2.2.2.1, cell_grown hb h.2.2.2.2⟩
theorem s5_keep {X : Nat → Prop} {W W' : World} {b1 o1 b2 o2 b3 o3 b4 o4 b5 o5 : Nat} {x1 x2 x3 x4 x5 : Value}
    (h : W.cell? ⟨b1, o1, none⟩ = some x1 ∧ W.cell? ⟨b2, o2, none⟩ = some x2 ∧ W.cell? ⟨b3, o3, none⟩ = some x3 ∧ W.cell? ⟨b4, o4, none⟩ = some x4 ∧ W.cell? ⟨b5, o5, none⟩ = some x5) (hf : Fp X W W') (n1 : ¬ X b1) (n2 : ¬ X b2) (n3 : ¬ X b3) (n4 : ¬ X b4) (n5 : ¬ X b5) :
    W'.cell? ⟨b1, o1, none⟩ = some x1 ∧ W'.cell? ⟨b2, o2, none⟩ = some x2 ∧ W'.cell? ⟨b3, o3, none⟩ = some x3 ∧ W'.cell? ⟨b4, o4, none⟩ = some x4 ∧ W'.cell? ⟨b5, o5, none⟩ = some x5 :=
  ⟨hf.cell' n1 h.1, hf.cell' n2 h.2.1, hf.cell' n3 h.2.2.1, hf.cell' n4 h.2.2.2.1, hf.cell' n5 h.2.2.2.2⟩

theorem s5_set {W : World} {g b1 o1 b2 o2 b3 o3 b4 o4 b5 o5 : Nat} {x1 x2 x3 x4 x5 : Value} {y0 y1 y2 y3 y4 : Value}
    (h : W.cell? ⟨b1, o1, none⟩ = some x1 ∧ W.cell? ⟨b2, o2, none⟩ = some x2 ∧ W.cell? ⟨b3, o3, none⟩ = some x3 ∧ W.cell? ⟨b4, o4, none⟩ = some x4 ∧ W.cell? ⟨b5, o5, none⟩ = some x5) (n1 : ¬ b1 = g) (n2 : ¬ b2 = g) (n3 : ¬ b3 = g) (n4 : ¬ b4 = g) (n5 : ¬ b5 = g) :
    (((((W.setCell ⟨g, 0, none⟩ y0).setCell ⟨g, 1, none⟩ y1).setCell ⟨g, 2, none⟩ y2).setCell ⟨g, 3, none⟩ y3).setCell ⟨g, 4, none⟩ y4).drew.cell? ⟨b1, o1, none⟩ = some x1 ∧
    (((((W.setCell ⟨g, 0, none⟩ y0).setCell ⟨g, 1, none⟩ y1).setCell ⟨g, 2, none⟩ y2).setCell ⟨g, 3, none⟩ y3).setCell ⟨g, 4, none⟩ y4).drew.cell? ⟨b2, o2, none⟩ = some x2 ∧
    (((((W.setCell ⟨g, 0, none⟩ y0).setCell ⟨g, 1, none⟩ y1).setCell ⟨g, 2, none⟩ y2).setCell ⟨g, 3, none⟩ y3).setCell ⟨g, 4, none⟩ y4).drew.cell? ⟨b3, o3, none⟩ = some x3 ∧
    (((((W.setCell ⟨g, 0, none⟩ y0).setCell ⟨g, 1, none⟩ y1).setCell ⟨g, 2, none⟩ y2).setCell ⟨g, 3, none⟩ y3).setCell ⟨g, 4, none⟩ y4).drew.cell? ⟨b4, o4, none⟩ = some x4 ∧
    (((((W.setCell ⟨g, 0, none⟩ y0).setCell ⟨g, 1, none⟩ y1).setCell ⟨g, 2, none⟩ y2).setCell ⟨g, 3, none⟩ y3).setCell ⟨g, 4, none⟩ y4).drew.cell? ⟨b5, o5, none⟩ = some x5 := by
  have hf : Fp (fun k => k = g) W (((((W.setCell ⟨g, 0, none⟩ y0).setCell ⟨g, 1, none⟩ y1).setCell ⟨g, 2, none⟩ y2).setCell ⟨g, 3, none⟩ y3).setCell ⟨g, 4, none⟩ y4).drew :=
    ((((((Fp.refl (fun k => k = g) W).setCell (p := ⟨g, 0, none⟩) rfl y0).setCell (p := ⟨g, 1, none⟩) rfl y1).setCell (p := ⟨g, 2, none⟩) rfl y2).setCell (p := ⟨g, 3, none⟩) rfl y3).setCell (p := ⟨g, 4, none⟩) rfl y4).drew
  exact s5_keep h hf n1 n2 n3 n4 n5

theorem ia_core (b1 o1 b2 o2 b3 o3 b4 o4 b5 o5 n c1 c2 c3 c4 c5 i : Nat) (t : It) (w : World) (hi : i < n)
    (h1 : w.cell? ⟨b1, o1 + i, none⟩ = some (.int .u64 t.s)) (h2 : w.cell? ⟨b2, o2 + i, none⟩ = some (.string t.k)) (h3 : w.cell? ⟨b3, o3 + i, none⟩ = some (.string t.v)) (h4 : w.cell? ⟨b4, o4 + i, none⟩ = some (.int .u8 t.l)) (h5 : w.cell? ⟨b5, o5 + i, none⟩ = some (.int .u64 t.r)) :
    Calls Try.prog 30 #[.slice (some ⟨b1, o1, none⟩) n c1, .slice (some ⟨b2, o2, none⟩) n c2, .slice (some ⟨b3, o3, none⟩) n c3, .slice (some ⟨b4, o4, none⟩) n c4, .slice (some ⟨b5, o5, none⟩) n c5, .int .i64 (i : Int)] w fun e w' =>
      e = .returned t.val ∧ Below w.heap.size w w' := by
  have n1 : ¬ b1 = w.heap.size := by have := lt_of_cell h1; omega
  have n2 : ¬ b2 = w.heap.size := by have := lt_of_cell h2; omega
  have n3 : ¬ b3 = w.heap.size := by have := lt_of_cell h3; omega
  have n4 : ¬ b4 = w.heap.size := by have := lt_of_cell h4; omega
  have n5 : ¬ b5 = w.heap.size := by have := lt_of_cell h5; omega
  have hS := And.intro h1 (And.intro h2 (And.intro h3 (And.intro h4 h5)))
  have hin : (i : Int) < (n : Int) := by omega
  clear h1 h2 h3 h4 h5
  go_enter Try.func30, Try.ntmps30
  go_wp2_with fail
  have hB := (Below.refl w.heap.size w).alloc (Nat.le_refl _) (.cells #[.int .u64 0, .string ⟨#[]⟩, .string ⟨#[]⟩, .int .u8 0, .int .u64 0] 66)
  have hS' := s5_grow hS hB
  have hI : ItAt (w.alloc (.cells #[.int .u64 0, .string ⟨#[]⟩, .string ⟨#[]⟩, .int .u8 0, .int .u64 0] 66)) w.heap.size 0 It.zero := by
    refine ⟨?_, ?_, ?_, ?_, ?_⟩ <;> simp [It.zero]
  have hFz : ∀ j, (w.alloc (.cells #[.int .u64 0, .string ⟨#[]⟩, .string ⟨#[]⟩, .int .u8 0, .int .u64 0] 66)).frozen? ⟨w.heap.size, j, none⟩ = false := fun j => World.frozen?_alloc_at _ _ _ _ (by simp)
  generalize w.alloc (.cells #[.int .u64 0, .string ⟨#[]⟩, .string ⟨#[]⟩, .int .u8 0, .int .u64 0] 66) = W0 at hB hS' hI hFz ⊢
  generalize hg : w.heap.size = g at n1 n2 n3 n4 n5 hB hI hFz ⊢
  have z0 := hFz 0
  have z1 := hFz 1
  have z2 := hFz 2
  have z3 := hFz 3
  have z4 := hFz 4
  have i0 : W0.cell? ⟨g, 0, none⟩ = some (.int .u64 0) := hI.s
  have i1 : W0.cell? ⟨g, 1, none⟩ = some (.string ⟨#[]⟩) := hI.k
  have i2 : W0.cell? ⟨g, 2, none⟩ = some (.string ⟨#[]⟩) := hI.v
  have i3 : W0.cell? ⟨g, 3, none⟩ = some (.int .u8 0) := hI.l
  have i4 : W0.cell? ⟨g, 4, none⟩ = some (.int .u64 0) := hI.r
  have HB := hide hB
  have HI := hide hI
  have HG := hide hg
  have N1 := hide n1
  have N2 := hide n2
  have N3 := hide n3
  have N4 := hide n4
  have N5 := hide n5
  clear hS hB hFz hI hg n1 n2 n3 n4 n5
  go_region_held (fun W => W.cell? ⟨b1, o1 + i, none⟩ = some (.int .u64 t.s) ∧ W.cell? ⟨b2, o2 + i, none⟩ = some (.string t.k) ∧ W.cell? ⟨b3, o3 + i, none⟩ = some (.string t.v) ∧ W.cell? ⟨b4, o4 + i, none⟩ = some (.int .u8 t.l) ∧ W.cell? ⟨b5, o5 + i, none⟩ = some (.int .u64 t.r))
    (first | exact s5_keep (X := fun k => k = g) hS' (Fp.refl _ _).drew (unhide N1) (unhide N2) (unhide N3) (unhide N4) (unhide N5) | exact s5_set hS' (unhide N1) (unhide N2) (unhide N3) (unhide N4) (unhide N5))
    (fail)
  go_wp2_with fail
  have hf : Fp (fun k => k = g) W0 (set5 W0 g 0 t) := set5_fp rfl
  have hg := unhide HG
  subst hg
  have hz := set5_same W0 w.heap.size 0 t _ (unhide HI)
  have hbw : Below w.heap.size w (set5 W0 w.heap.size 0 t).drew := ((unhide HB).trans (hf.below (unhide HB).size (fun k hk => by omega))).drew
  have q0 := hz.s
  have q1 := hz.k
  have q2 := hz.v
  have q3 := hz.l
  have q4 := hz.r
  refine bodyPost_ret (v := t.val) ?_ rfl ⟨rfl, hbw⟩
  show _ = _
  change _ = _ at q0
  have hx : set5 W0 w.heap.size 0 t = ((((W0.setCell ⟨w.heap.size, 0, none⟩ (.int .u64 t.s)).setCell ⟨w.heap.size, 1, none⟩ (.string t.k)).setCell ⟨w.heap.size, 2, none⟩ (.string t.v)).setCell ⟨w.heap.size, 3, none⟩ (.int .u8 t.l)).setCell ⟨w.heap.size, 4, none⟩ (.int .u64 t.r) := rfl
  rw [← hx]
  clear hx
  generalize set5 W0 w.heap.size 0 t = W1 at q0 q1 q2 q3 q4 ⊢
  simp at q0 q1 q2 q3 q4
  simp [results, Try.results30, go_sem, q0, q1, q2, q3, q4, It.val]

/-- itemAt of five slices that hold F: the i-th write. -/
theorem ia_any (a1 a2 a3 a4 a5 : Option Addr) (n c1 c2 c3 c4 c5 i : Nat) (F : Nat → It) (w : World) (hi : i < n) (h : In5 w a1 a2 a3 a4 a5 n F) :
    Calls Try.prog 30 #[.slice a1 n c1, .slice a2 n c2, .slice a3 n c3, .slice a4 n c4, .slice a5 n c5, .int .i64 (i : Int)] w fun e w' =>
      e = .returned (F i).val ∧ Below w.heap.size w w' := by
  obtain ⟨h1, h2, h3, h4, h5⟩ := h
  rcases h1 with h1 | ⟨b1, o1, rfl, h1⟩
  · omega
  rcases h2 with h2 | ⟨b2, o2, rfl, h2⟩
  · omega
  rcases h3 with h3 | ⟨b3, o3, rfl, h3⟩
  · omega
  rcases h4 with h4 | ⟨b4, o4, rfl, h4⟩
  · omega
  rcases h5 with h5 | ⟨b5, o5, rfl, h5⟩
  · omega
  exact ia_core b1 o1 b2 o2 b3 o3 b4 o4 b5 o5 n c1 c2 c3 c4 c5 i (F i) w hi (h1 i hi) (h2 i hi) (h3 i hi) (h4 i hi) (h5 i hi)
end Go.Proofs.Qxb6605272a
