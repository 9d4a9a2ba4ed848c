import Derived.Test.Qxb6604298aWe
/-! zzToOpenAI (15), zzSameImageUsage (16). -/
namespace Go.Proofs.Qxb6604298a
open Go.RowKit
set_option maxHeartbeats 4000000
set_option maxRecDepth 100000

/-- The five counts of an image usage that came in. -/
structure UAt (w : World) (b off : Nat) (u : Im) : Prop where
  tot : w.cell? ⟨b, off, none⟩ = some (.int .i64 u.tot)
  inp : w.cell? ⟨b, off + 1, none⟩ = some (.int .i64 u.inp)
  out : w.cell? ⟨b, off + 2, none⟩ = some (.int .i64 u.out)
  it : w.cell? ⟨b, off + 3, none⟩ = some (.int .i64 u.it)
  ii : w.cell? ⟨b, off + 3 + 1, none⟩ = some (.int .i64 u.ii)

theorem UAt.grown {w w' : World} {b off : Nat} {u : Im} (hb : Below w.heap.size w w') (h : UAt w b off u) : UAt w' b off u :=
  ⟨cell_grown hb h.tot, cell_grown hb h.inp, cell_grown hb h.out, cell_grown hb h.it, cell_grown hb h.ii⟩

theorem so_step {w W W' : World} {b off : Nat} {x0 x1 x2 x3 x4 x5 : Value}
    (h : Below w.heap.size w W ∧ W.cell? ⟨b, off, none⟩ = some x0 ∧ W.cell? ⟨b, off + 1, none⟩ = some x1 ∧ W.cell? ⟨b, off + 2, none⟩ = some x2 ∧ W.cell? ⟨b, off + 3, none⟩ = some x3 ∧ W.cell? ⟨b, off + 3 + 1, none⟩ = some x4 ∧ W.cell? ⟨b, off + 5, none⟩ = some x5)
    (hb : Below W.heap.size W W') :
    Below w.heap.size w W' ∧ W'.cell? ⟨b, off, none⟩ = some x0 ∧ W'.cell? ⟨b, off + 1, none⟩ = some x1 ∧ W'.cell? ⟨b, off + 2, none⟩ = some x2 ∧ W'.cell? ⟨b, off + 3, none⟩ = some x3 ∧ W'.cell? ⟨b, off + 3 + 1, none⟩ = some x4 ∧ W'.cell? ⟨b, off + 5, none⟩ = some x5 := by
  obtain ⟨h, c0, c1, c2, c3, c4, c5⟩ := h
  exact ⟨h.trans (hb.mono h.size), cell_grown hb c0, cell_grown hb c1, cell_grown hb c2, cell_grown hb c3, cell_grown hb c4, cell_grown hb c5⟩

theorem to_nil (w : World) : Calls Try.prog 15 #[.pointer none] w fun e w' => e = .returned (.pointer none) ∧ w' = w := by
  go_enter Try.func15, Try.ntmps15
  go_wp2
  go_ret
  exact ⟨rfl, rfl⟩

/-- zzToOpenAI of a usage without output details. -/
theorem to_bare (b off : Nat) (u : Im) (w : World) (hu : UAt w b off u) (h5 : w.cell? ⟨b, off + 5, none⟩ = some (.pointer none)) :
    Calls Try.prog 15 #[.pointer (some ⟨b, off, none⟩)] w fun e w' => e = .returned (.pointer (some ⟨w.heap.size, 0, none⟩)) ∧ Below w.heap.size w w' ∧
      UAt w' w.heap.size 0 u ∧ w'.cell? ⟨w.heap.size, 5, none⟩ = some (.pointer none) := by
  have hS := And.intro (Below.refl w.heap.size w) (And.intro hu.tot (And.intro hu.inp (And.intro hu.out (And.intro hu.it (And.intro hu.ii h5)))))
  have c5 := h5
  have hlt := lt_of_cell h5
  clear h5 hu
  go_enter Try.func15, Try.ntmps15
  go_wp2_with fail
  go_region_held (fun W => Below w.heap.size w W ∧ W.cell? ⟨b, off, none⟩ = some (.int .i64 u.tot) ∧ W.cell? ⟨b, off + 1, none⟩ = some (.int .i64 u.inp) ∧ W.cell? ⟨b, off + 2, none⟩ = some (.int .i64 u.out) ∧ W.cell? ⟨b, off + 3, none⟩ = some (.int .i64 u.it) ∧ W.cell? ⟨b, off + 3 + 1, none⟩ = some (.int .i64 u.ii) ∧ W.cell? ⟨b, off + 5, none⟩ = some (.pointer none))
    (first | exact so_step hS (Below.refl _ _).drew | exact so_step (by assumption) ((Below.refl _ _).alloc (Nat.le_refl _) _))
    (fail)
  go_wp2_with fail
  go_ret
  refine ⟨rfl, ((Below.refl _ _).drew).alloc (Nat.le_refl _) _, ⟨?_, ?_, ?_, ?_, ?_⟩, ?_⟩ <;> simp

theorem to_world (g : Nat) (W1 : World) (u : Im) (t : TypeId) (ng : g < W1.heap.size)
    (g0 : W1.cell? ⟨g, 0, none⟩ = some (.int .i64 u.tot)) (g1 : W1.cell? ⟨g, 1, none⟩ = some (.int .i64 u.inp)) (g2 : W1.cell? ⟨g, 2, none⟩ = some (.int .i64 u.out)) (g3 : W1.cell? ⟨g, 3, none⟩ = some (.int .i64 u.it)) (g4 : W1.cell? ⟨g, 4, none⟩ = some (.int .i64 u.ii))
    (g5 : W1.cell? ⟨g, 5, none⟩ = some (.pointer none)) (gf : ∀ j, W1.frozen? ⟨g, j, none⟩ = false) (go : Own W1 g) :
    ImAt ((W1.setCell ⟨g, 5, none⟩ (.pointer (some ⟨W1.heap.size, 0, none⟩))).alloc (.cells #[.int .i64 u.ot, .int .i64 u.oi] t)).drew g W1.heap.size u := by
  have hp : ∀ j, ((W1.setCell ⟨g, 5, none⟩ (.pointer (some ⟨W1.heap.size, 0, none⟩))).alloc (.cells #[.int .i64 u.ot, .int .i64 u.oi] t)).drew.cell? ⟨g, j, none⟩ = (W1.setCell ⟨g, 5, none⟩ (.pointer (some ⟨W1.heap.size, 0, none⟩))).cell? ⟨g, j, none⟩ := fun j => by
    rw [World.cell?_drew]; exact World.cell?_alloc_past _ _ _ (by simpa using ng)
  have hn : ∀ j, ((W1.setCell ⟨g, 5, none⟩ (.pointer (some ⟨W1.heap.size, 0, none⟩))).alloc (.cells #[.int .i64 u.ot, .int .i64 u.oi] t)).drew.cell? ⟨W1.heap.size, j, none⟩ = #[Value.int .i64 u.ot, .int .i64 u.oi][j]? := fun j => by
    rw [World.cell?_drew]; exact World.cell?_alloc_at _ _ _ _ (by simp)
  refine ⟨?_, ?_, ?_, ?_, ?_, ?_, ?_, ?_, ?_, ?_, by omega, ?_, ?_⟩
  · rw [hp, World.cell?_setCell_other _ _ _ _ (by simp)]; exact g0
  · rw [hp, World.cell?_setCell_other _ _ _ _ (by simp)]; exact g1
  · rw [hp, World.cell?_setCell_other _ _ _ _ (by simp)]; exact g2
  · rw [hp, World.cell?_setCell_other _ _ _ _ (by simp)]; exact g3
  · rw [hp, World.cell?_setCell_other _ _ _ _ (by simp)]; exact g4
  · rw [hp]; exact World.cell?_setCell_same _ _ _ g5
  · rw [hn]; rfl
  · rw [hn]; rfl
  · intro j
    rw [show (((W1.setCell ⟨g, 5, none⟩ (.pointer (some ⟨W1.heap.size, 0, none⟩))).alloc (.cells #[.int .i64 u.ot, .int .i64 u.oi] t)).drew.frozen? ⟨g, j, none⟩) = ((W1.setCell ⟨g, 5, none⟩ (.pointer (some ⟨W1.heap.size, 0, none⟩))).alloc (.cells #[.int .i64 u.ot, .int .i64 u.oi] t)).frozen? ⟨g, j, none⟩ from rfl]
    rw [World.frozen?_alloc_past _ _ _ (by simpa using ng), World.frozen?_setCell]
    exact gf j
  · intro j
    rw [show (((W1.setCell ⟨g, 5, none⟩ (.pointer (some ⟨W1.heap.size, 0, none⟩))).alloc (.cells #[.int .i64 u.ot, .int .i64 u.oi] t)).drew.frozen? ⟨W1.heap.size, j, none⟩) = ((W1.setCell ⟨g, 5, none⟩ (.pointer (some ⟨W1.heap.size, 0, none⟩))).alloc (.cells #[.int .i64 u.ot, .int .i64 u.oi] t)).frozen? ⟨W1.heap.size, j, none⟩ from rfl]
    exact World.frozen?_alloc_at _ _ _ _ (by simp)
  · exact ((go.setCell _ _ _).grown ((Below.refl _ _).alloc (Nat.le_refl _) _)).drew
  · have := Own.new (W1.setCell ⟨g, 5, none⟩ (.pointer (some ⟨W1.heap.size, 0, none⟩))) #[.int .i64 u.ot, .int .i64 u.oi] t
    rw [World.size_setCell] at this
    exact this.drew

/-- zzToOpenAI of a usage with output details. -/
theorem to_full (b off d o : Nat) (u : Im) (w : World) (hu : UAt w b off u) (h5 : w.cell? ⟨b, off + 5, none⟩ = some (.pointer (some ⟨d, o, none⟩)))
    (h6 : w.cell? ⟨d, o, none⟩ = some (.int .i64 u.ot)) (h7 : w.cell? ⟨d, o + 1, none⟩ = some (.int .i64 u.oi)) :
    Calls Try.prog 15 #[.pointer (some ⟨b, off, none⟩)] w fun e w' => ∃ b' d', e = .returned (.pointer (some ⟨b', 0, none⟩)) ∧ w.heap.size ≤ b' ∧ w.heap.size ≤ d' ∧ Below w.heap.size w w' ∧ ImAt w' b' d' u := by
  have hS := And.intro (Below.refl w.heap.size w) (And.intro hu.tot (And.intro hu.inp (And.intro hu.out (And.intro hu.it (And.intro hu.ii h5)))))
  have c5 := h5
  have hlt := lt_of_cell h5
  have hld := lt_of_cell h6
  have hlt1 : b < w.heap.size + 1 := by omega
  have hld1 : d < w.heap.size + 1 := by omega
  clear h5 hu
  go_enter Try.func15, Try.ntmps15
  go_wp2_with fail
  go_region_held (fun W => Below w.heap.size w W ∧ W.cell? ⟨b, off, none⟩ = some (.int .i64 u.tot) ∧ W.cell? ⟨b, off + 1, none⟩ = some (.int .i64 u.inp) ∧ W.cell? ⟨b, off + 2, none⟩ = some (.int .i64 u.out) ∧ W.cell? ⟨b, off + 3, none⟩ = some (.int .i64 u.it) ∧ W.cell? ⟨b, off + 3 + 1, none⟩ = some (.int .i64 u.ii) ∧ W.cell? ⟨b, off + 5, none⟩ = some (.pointer (some ⟨d, o, none⟩)))
    (first | exact so_step hS (Below.refl _ _).drew | exact so_step (by assumption) ((Below.refl _ _).alloc (Nat.le_refl _) _))
    (fail)
  go_wp2_with fail
  have hb1 : Below w.heap.size w (w.alloc (.cells #[.int .i64 u.tot, .int .i64 u.inp, .int .i64 u.out, .int .i64 u.it, .int .i64 u.ii, .pointer none] 55)).drew := ((Below.refl _ _).alloc (Nat.le_refl _) _).drew
  have g0 : (w.alloc (.cells #[.int .i64 u.tot, .int .i64 u.inp, .int .i64 u.out, .int .i64 u.it, .int .i64 u.ii, .pointer none] 55)).drew.cell? ⟨w.heap.size, 0, none⟩ = some (.int .i64 u.tot) := by simp
  have g1 : (w.alloc (.cells #[.int .i64 u.tot, .int .i64 u.inp, .int .i64 u.out, .int .i64 u.it, .int .i64 u.ii, .pointer none] 55)).drew.cell? ⟨w.heap.size, 1, none⟩ = some (.int .i64 u.inp) := by simp
  have g2 : (w.alloc (.cells #[.int .i64 u.tot, .int .i64 u.inp, .int .i64 u.out, .int .i64 u.it, .int .i64 u.ii, .pointer none] 55)).drew.cell? ⟨w.heap.size, 2, none⟩ = some (.int .i64 u.out) := by simp
  have g3 : (w.alloc (.cells #[.int .i64 u.tot, .int .i64 u.inp, .int .i64 u.out, .int .i64 u.it, .int .i64 u.ii, .pointer none] 55)).drew.cell? ⟨w.heap.size, 3, none⟩ = some (.int .i64 u.it) := by simp
  have g4 : (w.alloc (.cells #[.int .i64 u.tot, .int .i64 u.inp, .int .i64 u.out, .int .i64 u.it, .int .i64 u.ii, .pointer none] 55)).drew.cell? ⟨w.heap.size, 4, none⟩ = some (.int .i64 u.ii) := by simp
  have g5 : (w.alloc (.cells #[.int .i64 u.tot, .int .i64 u.inp, .int .i64 u.out, .int .i64 u.it, .int .i64 u.ii, .pointer none] 55)).drew.cell? ⟨w.heap.size, 5, none⟩ = some (.pointer none) := by simp
  have gf : ∀ j, (w.alloc (.cells #[.int .i64 u.tot, .int .i64 u.inp, .int .i64 u.out, .int .i64 u.it, .int .i64 u.ii, .pointer none] 55)).drew.frozen? ⟨w.heap.size, j, none⟩ = false := by intro j; simp
  have go : Own (w.alloc (.cells #[.int .i64 u.tot, .int .i64 u.inp, .int .i64 u.out, .int .i64 u.it, .int .i64 u.ii, .pointer none] 55)).drew w.heap.size := (Own.new _ _ _).drew
  generalize (w.alloc (.cells #[.int .i64 u.tot, .int .i64 u.inp, .int .i64 u.out, .int .i64 u.it, .int .i64 u.ii, .pointer none] 55)).drew = W1 at hb1 g0 g1 g2 g3 g4 g5 gf go ⊢
  have c5 := cell_grown hb1 c5
  have c6 := cell_grown hb1 h6
  have c7 := cell_grown hb1 h7
  obtain ⟨g, hg⟩ : ∃ g, g = w.heap.size := ⟨_, rfl⟩
  rw [← hg] at g0 g1 g2 g3 g4 g5 gf go ⊢
  have ngW : g < W1.heap.size := lt_of_cell g0
  have n1 : b ≠ g := by omega
  have n2 : d ≠ g := by omega
  have gf5 := gf 5
  have HG := hide hg
  have HB1 := hide hb1
  have HO := hide go
  clear hS hb1 hg h6 h7 hlt hld hlt1 hld1 go
  go_region
  go_wp2_with fail
  go_ret
  have hg := unhide HG
  have hs1 := (unhide HB1).size
  refine ⟨g, W1.heap.size, rfl, by omega, by omega, ?_, ?_⟩
  · exact (((unhide HB1).setCell (by dsimp only; omega) _).alloc (by simp; omega) _).drew
  · exact to_world g W1 u _ ngW g0 g1 g2 g3 g4 g5 gf (unhide HO)

theorem si_nil (w : World) : Calls Try.prog 16 #[.pointer none, .pointer none] w fun e w' => e = .returned (.bool true) ∧ ∃ n, w' = w.drewN n := by
  go_enter Try.func16, Try.ntmps16
  go_wp2_with fail
  go_ret
  exact ⟨rfl, 0, rfl⟩

/-- zzSameImageUsage, both without output details. -/
theorem si_bare (g b off : Nat) (u : Im) (w : World) (hu : UAt w b off u) (h5 : w.cell? ⟨b, off + 5, none⟩ = some (.pointer none)) (hg : UAt w g 0 u) (g5 : w.cell? ⟨g, 5, none⟩ = some (.pointer none)) :
    Calls Try.prog 16 #[.pointer (some ⟨g, 0, none⟩), .pointer (some ⟨b, off, none⟩)] w fun e w' => e = .returned (.bool true) ∧ ∃ n, w' = w.drewN n := by
  obtain ⟨p0, p1, p2, p3, p4⟩ := hu
  obtain ⟨q0, q1, q2, q3, q4⟩ := hg
  go_enter Try.func16, Try.ntmps16
  go_wp2_with fail
  go_quiet (fail)
  go_wp2_with fail
  go_ret
  exact ⟨rfl, _, rfl⟩

/-- zzSameImageUsage, both with output details. -/
theorem si_full (g e b off d o : Nat) (u : Im) (w : World) (hu : UAt w b off u) (h5 : w.cell? ⟨b, off + 5, none⟩ = some (.pointer (some ⟨d, o, none⟩))) (h6 : w.cell? ⟨d, o, none⟩ = some (.int .i64 u.ot)) (h7 : w.cell? ⟨d, o + 1, none⟩ = some (.int .i64 u.oi)) (hg : ImAt w g e u) :
    Calls Try.prog 16 #[.pointer (some ⟨g, 0, none⟩), .pointer (some ⟨b, off, none⟩)] w fun e w' => e = .returned (.bool true) ∧ ∃ n, w' = w.drewN n := by
  obtain ⟨p0, p1, p2, p3, p4⟩ := hu
  obtain ⟨q0, q1, q2, q3, q4, q5, q6, q7, _, _, _, _, _⟩ := hg
  go_enter Try.func16, Try.ntmps16
  go_wp2_with fail
  go_quiet (fail)
  go_wp2_with fail
  go_quiet (fail)
  go_wp2_with fail
  go_ret
  exact ⟨rfl, _, World.drewN_drewN _ _ _⟩
end Go.Proofs.Qxb6604298a
