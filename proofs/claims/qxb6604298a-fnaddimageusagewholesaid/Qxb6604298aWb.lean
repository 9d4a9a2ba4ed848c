import Derived.Test.Qxb6604298aBase
import Derived.RegionTactic
import Derived.BigRegion
import Derived.Deep.RegionHeld
namespace Go.Proofs.Qxb6604298a
open Go.RowKit
set_option maxHeartbeats 1000000

theorem Try.info69 : (Try.prog.info? 69).map (fun i => (i.zero, i.size, i.bytes)) = some (some (.agg #[.string ⟨#[]⟩, .int .i64 0]), 2, 24) := by kernel_rfl

/-- Two stores side by side into a block of one's own. -/
theorem set2 (wr : World) (B j : Nat) (u0 u1 : Value) {v0 v1 : Value} (h0 : wr.cell? ⟨B, j, none⟩ = some v0) (h1 : wr.cell? ⟨B, j + 1, none⟩ = some v1) :
    ((wr.setCell ⟨B, j, none⟩ u0).setCell ⟨B, j + 1, none⟩ u1).drew.cell? ⟨B, j, none⟩ = some u0 ∧
    ((wr.setCell ⟨B, j, none⟩ u0).setCell ⟨B, j + 1, none⟩ u1).drew.cell? ⟨B, j + 1, none⟩ = some u1 ∧
    (∀ b i, (b = B → i ≠ j ∧ i ≠ j + 1) → ((wr.setCell ⟨B, j, none⟩ u0).setCell ⟨B, j + 1, none⟩ u1).drew.cell? ⟨b, i, none⟩ = wr.cell? ⟨b, i, none⟩) := by
  refine ⟨?_, ?_, ?_⟩
  · rw [World.cell?_drew, World.cell?_setCell_other _ _ _ _ (by simp)]
    exact World.cell?_setCell_same _ _ _ h0
  · rw [World.cell?_drew]
    refine World.cell?_setCell_same _ _ _ (u := v1) ?_
    rw [World.cell?_setCell_other _ _ _ _ (by simp)]
    exact h1
  · intro b i h
    rw [World.cell?_drew, World.cell?_setCell_other _ _ _ _ (by simp; intro e; have := h e.symm; omega), World.cell?_setCell_other _ _ _ _ (by simp; intro e; have := h e.symm; omega)]

theorem tgd_some (b off cap : Nat) (xs : Ds) (w : World) (hl : xs.length * 24 ≤ 140737488351232)
    (hd : ∀ i (h : i < xs.length), w.cell? ⟨b, off + i * 2, none⟩ = some (.string xs[i].1) ∧ w.cell? ⟨b, off + i * 2 + 1, none⟩ = some (.int .i64 xs[i].2)) :
    Calls Try.prog 23 #[.slice (some ⟨b, off, none⟩) xs.length cap] w fun e w' => e = .returned (.slice (some ⟨w.heap.size, 0, none⟩) xs.length xs.length) ∧ Below w.heap.size w w' ∧
      (∀ i (h : i < xs.length), w'.cell? ⟨w.heap.size, 0 + i * 2, none⟩ = some (.string xs[i].1) ∧ w'.cell? ⟨w.heap.size, 0 + i * 2 + 1, none⟩ = some (.int .i64 xs[i].2)) ∧ w.heap.size < w'.heap.size := by
  obtain ⟨i0, hi, hz0, hz1, hz2⟩ := info_parts Try.info69
  have hmk := fun (W : World) => run_make (P := Try.prog) W 62 69 i0 _ Try.underlying62 hi hz0 .i64 .i64 (xs.length : Int) (xs.length : Int) (by omega) (by omega) (by rw [hz2]; omega) (by omega)
  simp only [hz1, Int.toNat_natCast] at hmk
  clear hi hz0 hz1 hz2
  have hnil := fun (W : World) (a : Option Addr) (n c n' c' : Nat) => Lib.run_eql_slice_nil (P := Try.prog) W 40 67 a n c n' c' Try.underlying40
  go_enter Try.func23, Try.ntmps23
  go_wp2
  clear hmk hnil
  have hsz : ∀ j, j < xs.length * 2 → ∃ v, (w.alloc (.cells (madeCells (Value.agg #[.string ⟨#[]⟩, .int .i64 0]).cells (xs.length * 2)) 69)).cell? ⟨w.heap.size, j, none⟩ = some v := by
    intro j hj
    simp [World.cell?_alloc_at, size_madeCells, hj]
  have hfz : ∀ j, (w.alloc (.cells (madeCells (Value.agg #[.string ⟨#[]⟩, .int .i64 0]).cells (xs.length * 2)) 69)).frozen? ⟨w.heap.size, j, none⟩ = false := by
    intro j
    simp
  have hbl : Below w.heap.size w (w.alloc (.cells (madeCells (Value.agg #[.string ⟨#[]⟩, .int .i64 0]).cells (xs.length * 2)) 69)) := (Below.refl _ _).alloc (Nat.le_refl _) _
  have hgt : w.heap.size < (w.alloc (.cells (madeCells (Value.agg #[.string ⟨#[]⟩, .int .i64 0]).cells (xs.length * 2)) 69)).heap.size := by simp
  go_loopw [4] (fun i wr => ∃ k : Nat, k ≤ xs.length ∧ i = .int .i64 k ∧ Below w.heap.size w wr ∧ w.heap.size < wr.heap.size ∧ (∀ j, j < xs.length * 2 → ∃ v, wr.cell? ⟨w.heap.size, j, none⟩ = some v) ∧ (∀ j, wr.frozen? ⟨w.heap.size, j, none⟩ = false) ∧
      (∀ i (h : i < k) (h' : i < xs.length), wr.cell? ⟨w.heap.size, 0 + i * 2, none⟩ = some (.string xs[i].1) ∧ wr.cell? ⟨w.heap.size, 0 + i * 2 + 1, none⟩ = some (.int .i64 xs[i].2))) (fun i _ => xs.length - (intOf i).toNat)
  case atStart => exact ⟨0, Nat.zero_le _, rfl, hbl, hgt, hsz, hfz, fun i h => absurd h (by omega)⟩
  case round =>
    obtain ⟨k, hk, rfl, hbr, hgr, hcr, hfr, hdr⟩ := hrel
    clear hsz hfz hbl hgt
    by_cases hlt : k < xs.length
    · have hc0 := cell_grown hbr (hd k hlt).1
      have hc1 := cell_grown hbr (hd k hlt).2
      obtain ⟨v0, hv0⟩ := hcr (k * 2) (by omega)
      obtain ⟨v1, hv1⟩ := hcr (k * 2 + 1) (by omega)
      have hf0 := hfr (k * 2)
      have hf1 := hfr (k * 2 + 1)
      go_wp2
      go_region
      go_wp2
      obtain ⟨s0, s1, s2⟩ := set2 wr w.heap.size (k * 2) (.string xs[k].1) (.int .i64 xs[k].2) hv0 hv1
      go_roundw
      case rel =>
        refine ⟨k + 1, by omega, by go_num, ((hbr.setCell (Nat.le_refl _) _).setCell (Nat.le_refl _) _).drew, by simpa using hgr, ?_, ?_, ?_⟩
        · intro j hj
          by_cases e0 : j = k * 2
          · subst e0; exact ⟨_, s0⟩
          · by_cases e1 : j = k * 2 + 1
            · subst e1; exact ⟨_, s1⟩
            · rw [s2 _ _ (fun _ => ⟨e0, e1⟩)]; exact hcr j hj
        · intro j; simpa using hfr j
        · intro i hi hi'
          by_cases e : i = k
          · subst e; rw [Nat.zero_add]; exact ⟨s0, s1⟩
          · rw [s2 _ _ (fun _ => by omega), s2 _ _ (fun _ => by omega)]; exact hdr i (by omega) hi'
      case measure => simp [intOf]; omega
    · go_wp2
      go_ret
      exact ⟨rfl, hbr, fun i hi => hdr i (by omega) hi, hgr⟩

theorem tgd_none (cap : Nat) (w : World) :
    Calls Try.prog 23 #[.slice none 0 cap] w fun e w' => e = .returned (.slice none 0 0) ∧ w' = w := by
  have hnil := fun (W : World) (a : Option Addr) (n c n' c' : Nat) => Lib.run_eql_slice_nil (P := Try.prog) W 40 67 a n c n' c' Try.underlying40
  go_enter Try.func23, Try.ntmps23
  go_wp2
  go_ret
  exact ⟨rfl, rfl⟩

theorem tgd_empty (x : Addr) (cap : Nat) (w : World) :
    Calls Try.prog 23 #[.slice (some x) 0 cap] w fun e w' => e = .returned (.slice (some ⟨w.heap.size, 0, none⟩) 0 0) ∧ Below w.heap.size w w' ∧ w.heap.size < w'.heap.size := by
  obtain ⟨i0, hi, hz0, hz1, hz2⟩ := info_parts Try.info69
  have hmk := fun (W : World) => run_make (P := Try.prog) W 62 69 i0 _ Try.underlying62 hi hz0 .i64 .i64 0 0 (by omega) (by omega) (by rw [hz2]; omega) (by omega)
  simp only [hz1] at hmk
  clear hi hz0 hz1 hz2
  have hnil := fun (W : World) (a : Option Addr) (n c n' c' : Nat) => Lib.run_eql_slice_nil (P := Try.prog) W 40 67 a n c n' c' Try.underlying40
  go_enter Try.func23, Try.ntmps23
  go_wp2
  clear hmk hnil
  refine wp_loop_rounds 1 ?_
  rw [rounds_succ]
  go_wp2
  go_ret
  exact ⟨rfl, (Below.refl _ _).alloc (Nat.le_refl _) _, by simp⟩

/-- zzToGeminiDetails: a fresh copy; nil stays nil. -/
theorem tgd_any (a : Option Addr) (cap : Nat) (xs : Ds) (w : World) (hl : xs.length * 24 ≤ 140737488351232) (hd : Det w a xs) :
    Calls Try.prog 23 #[.slice a xs.length cap] w fun e w' => ∃ a' c', e = .returned (.slice a' xs.length c') ∧ Below w.heap.size w w' ∧ Det w' a' xs ∧ a'.isNone = a.isNone ∧ (∀ x, a' = some x → w.heap.size ≤ x.block ∧ x.block < w'.heap.size) := by
  rcases hd with rfl | ⟨b, off, rfl, hc⟩
  · cases a with
    | none => exact (tgd_none cap w).mono fun e w' ⟨h1, h2⟩ => ⟨none, 0, h1, h2 ▸ Below.refl _ _, Or.inl rfl, rfl, fun x hx => by cases hx⟩
    | some x => exact (tgd_empty x cap w).mono fun e w' ⟨h1, h2, h3⟩ => ⟨_, _, h1, h2, Or.inl rfl, rfl, fun x hx => by cases hx; exact ⟨Nat.le_refl _, h3⟩⟩
  · exact (tgd_some b off cap xs w hl hc).mono fun e w' ⟨h1, h2, h3, h4⟩ => ⟨_, _, h1, h2, Or.inr ⟨_, _, rfl, h3⟩, rfl, fun x hx => by cases hx; exact ⟨Nat.le_refl _, h4⟩⟩
end Go.Proofs.Qxb6604298a
