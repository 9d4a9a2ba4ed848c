import Derived.Test.Qxb6604298aWb
namespace Go.Proofs.Qxb6604298a
open Go.RowKit
set_option maxHeartbeats 1000000

theorem sg_step {w W W' : World} {b off : Nat} {x0 x1 x2 x3 x4 x5 : Value}
    (h : Below w.heap.size w W ∧ W.cell? ⟨b, off, none⟩ = some x0 ∧ W.cell? ⟨b, off + 1, none⟩ = some x1 ∧ W.cell? ⟨b, off + 2, none⟩ = some x2 ∧ W.cell? ⟨b, off + 3, none⟩ = some x3 ∧ W.cell? ⟨b, off + 4, none⟩ = some x4 ∧ W.cell? ⟨b, off + 5, none⟩ = some x5)
    (hb : Below W.heap.size W W') :
    Below w.heap.size w W' ∧ W'.cell? ⟨b, off, none⟩ = some x0 ∧ W'.cell? ⟨b, off + 1, none⟩ = some x1 ∧ W'.cell? ⟨b, off + 2, none⟩ = some x2 ∧ W'.cell? ⟨b, off + 3, none⟩ = some x3 ∧ W'.cell? ⟨b, off + 4, none⟩ = some x4 ∧ W'.cell? ⟨b, off + 5, none⟩ = some x5 := by
  obtain ⟨h, c0, c1, c2, c3, c4, c5⟩ := h
  exact ⟨h.trans (hb.mono h.size), cell_grown hb c0, cell_grown hb c1, cell_grown hb c2, cell_grown hb c3, cell_grown hb c4, cell_grown hb c5⟩

theorem sg_left {w W : World} {b off : Nat} {x0 x1 x2 x3 x4 x5 : Value}
    (h : Below w.heap.size w W ∧ W.cell? ⟨b, off, none⟩ = some x0 ∧ W.cell? ⟨b, off + 1, none⟩ = some x1 ∧ W.cell? ⟨b, off + 2, none⟩ = some x2 ∧ W.cell? ⟨b, off + 3, none⟩ = some x3 ∧ W.cell? ⟨b, off + 4, none⟩ = some x4 ∧ W.cell? ⟨b, off + 5, none⟩ = some x5) : Below w.heap.size w W := h.1

theorem tg_core (b off : Nat) (p c t s : Int) (pa ca : Option Addr) (np pc nc cc : Nat) (pd cd : Ds) (w : World)
    (h0 : w.cell? ⟨b, off, none⟩ = some (.int .i64 p)) (h1 : w.cell? ⟨b, off + 1, none⟩ = some (.int .i64 c)) (h2 : w.cell? ⟨b, off + 2, none⟩ = some (.int .i64 t)) (h3 : w.cell? ⟨b, off + 3, none⟩ = some (.int .i64 s))
    (h4 : w.cell? ⟨b, off + 4, none⟩ = some (.slice pa np pc)) (h5 : w.cell? ⟨b, off + 5, none⟩ = some (.slice ca nc cc))
    (hp : ∀ W : World, Below w.heap.size w W → Calls Try.prog 23 #[.slice pa np pc] W fun e w' => ∃ a' c', e = .returned (.slice a' np c') ∧ Below W.heap.size W w' ∧ Det w' a' pd ∧ a'.isNone = pa.isNone ∧ (∀ x, a' = some x → W.heap.size ≤ x.block ∧ x.block < w'.heap.size))
    (hc : ∀ W : World, Below w.heap.size w W → Calls Try.prog 23 #[.slice ca nc cc] W fun e w' => ∃ a' c', e = .returned (.slice a' nc c') ∧ Below W.heap.size W w' ∧ Det w' a' cd ∧ a'.isNone = ca.isNone ∧ (∀ x, a' = some x → W.heap.size ≤ x.block ∧ x.block < w'.heap.size)) :
    Calls Try.prog 9 #[.pointer (some ⟨b, off, none⟩)] w fun e w' => ∃ (g : Nat) (pa' : Option Addr) (pc' : Nat) (ca' : Option Addr) (cc' : Nat), e = .returned (.pointer (some ⟨g, 0, none⟩)) ∧ Below w.heap.size w w' ∧ w.heap.size ≤ g ∧
      w'.heap[g]? = some (.cells #[.int .i64 p, .int .i64 c, .int .i64 t, .int .i64 s, .slice pa' np pc', .slice ca' nc cc'] 64 (0, 0)) ∧ Det w' pa' pd ∧ Det w' ca' cd ∧ pa'.isNone = pa.isNone ∧ ca'.isNone = ca.isNone ∧
      (∀ x, pa' = some x → w.heap.size ≤ x.block ∧ x.block < w'.heap.size) ∧ (∀ x, ca' = some x → w.heap.size ≤ x.block ∧ x.block < w'.heap.size) := by
  have hS : Below w.heap.size w w ∧ w.cell? ⟨b, off, none⟩ = some (.int .i64 p) ∧ w.cell? ⟨b, off + 1, none⟩ = some (.int .i64 c) ∧ w.cell? ⟨b, off + 2, none⟩ = some (.int .i64 t) ∧ w.cell? ⟨b, off + 3, none⟩ = some (.int .i64 s) ∧ w.cell? ⟨b, off + 4, none⟩ = some (.slice pa np pc) ∧ w.cell? ⟨b, off + 5, none⟩ = some (.slice ca nc cc) :=
    ⟨Below.refl _ _, h0, h1, h2, h3, h4, h5⟩
  clear h0 h1 h2 h3 h4 h5
  have HP := hide hp
  have HC := hide hc
  clear hp hc
  go_enter Try.func9, Try.ntmps9
  go_wp2_with fail
  go_region_held (fun W => Below w.heap.size w W ∧ W.cell? ⟨b, off, none⟩ = some (.int .i64 p) ∧ W.cell? ⟨b, off + 1, none⟩ = some (.int .i64 c) ∧ W.cell? ⟨b, off + 2, none⟩ = some (.int .i64 t) ∧ W.cell? ⟨b, off + 3, none⟩ = some (.int .i64 s) ∧ W.cell? ⟨b, off + 4, none⟩ = some (.slice pa np pc) ∧ W.cell? ⟨b, off + 5, none⟩ = some (.slice ca nc cc))
    (first | exact sg_step hS (Below.refl _ _).drew | exact sg_step (by assumption) (by assumption) | exact sg_step (by assumption) ((Below.refl _ _).alloc (Nat.le_refl _) _))
    (first
      | (go_at_call_of 23 (Value.slice pa np pc); refine (unhide HP _ ?_).mono ?_; (exact sg_left (by assumption)); rintro e w1 ⟨a1, c1, rfl, hb1, hd1, hn1, hf1⟩)
      | (go_at_call_of 23 (Value.slice ca nc cc); refine (unhide HC _ ?_).mono ?_; (exact sg_left (by assumption)); rintro e w2 ⟨a2, c2, rfl, hb2, hd2, hn2, hf2⟩))
  have hs1 : w.heap.size ≤ w1.heap.size := hb1.size
  have hs2 := hb2.size
  go_wp2_with fail
  go_ret
  refine ⟨_, a1, c1, a2, c2, rfl, sg_left (by assumption), by omega, ?_, (hd1.grown hb2).grown ((Below.refl _ _).alloc (Nat.le_refl _) _), hd2.grown ((Below.refl _ _).alloc (Nat.le_refl _) _), hn1, hn2, ?_, ?_⟩
  · show (w2.heap.push _)[w2.heap.size]? = _
    simp
  · intro x hx
    have := hf1 x hx
    simp at this ⊢
    omega
  · intro x hx
    have := hf2 x hx
    simp
    omega

/-- zzToGemini of a metadata that lies in memory: a fresh copy, field by field, its details fresh too. -/
theorem tg_any (b off : Nat) (m : Mt) (w : World) (ho : MtOk m) (h : MtAt w b off m) :
    Calls Try.prog 9 #[.pointer (some ⟨b, off, none⟩)] w fun e w' => ∃ (g : Nat) (pa' : Option Addr) (pc' : Nat) (ca' : Option Addr) (cc' : Nat), e = .returned (.pointer (some ⟨g, 0, none⟩)) ∧ Below w.heap.size w w' ∧ w.heap.size ≤ g ∧ g < w'.heap.size ∧
      MtAt w' g 0 ⟨m.p, m.c, m.t, m.s, pa', pc', m.pd, ca', cc', m.cd⟩ ∧ pa'.isNone = m.pa.isNone ∧ ca'.isNone = m.ca.isNone ∧
      (∀ x, pa' = some x → w.heap.size ≤ x.block ∧ x.block < w'.heap.size) ∧ (∀ x, ca' = some x → w.heap.size ≤ x.block ∧ x.block < w'.heap.size) := by
  refine (tg_core b off m.p m.c m.t m.s m.pa m.ca m.pd.length m.pc m.cd.length m.cc m.pd m.cd w h.p h.c h.t h.s h.pv h.cv
    (fun W hb => tgd_any m.pa m.pc m.pd W ho.pl (h.pd.grown hb)) (fun W hb => tgd_any m.ca m.cc m.cd W ho.cl (h.cd.grown hb))).mono ?_
  rintro e w' ⟨g, pa', pc', ca', cc', rfl, hb, hg, hh, d1, d2, n1, n2, f1, f2⟩
  have hlt : g < w'.heap.size := by
    rcases Nat.lt_or_ge g w'.heap.size with h | h
    · exact h
    · rw [Array.getElem?_eq_none h] at hh; cases hh
  exact ⟨g, pa', pc', ca', cc', rfl, hb, hg, hlt, ⟨by simp [World.cell?, hh], by simp [World.cell?, hh], by simp [World.cell?, hh], by simp [World.cell?, hh], by simp [World.cell?, hh], by simp [World.cell?, hh], d1, d2⟩, n1, n2, f1, f2⟩

theorem tg_nil (w : World) : Calls Try.prog 9 #[.pointer none] w fun e w' => e = .returned (.pointer none) ∧ w' = w := by
  go_enter Try.func9, Try.ntmps9
  go_wp2
  go_ret
  exact ⟨rfl, rfl⟩
end Go.Proofs.Qxb6604298a
