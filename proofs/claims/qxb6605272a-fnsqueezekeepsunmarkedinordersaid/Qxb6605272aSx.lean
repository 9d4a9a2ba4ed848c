import Derived.Test.Qxb6605272aSw
/-! buildChunks (25): the views. -/
namespace Go.Proofs.Qxb6605272a
open Go.RowKit
set_option maxHeartbeats 4000000
set_option maxRecDepth 100000

theorem Try.info61 : (Try.prog.info? 61).map (fun i => (i.zero, i.size, i.bytes)) = some (some (.slice none 0 0), 1, 24) := by kernel_rfl

/-- The first j chunks are laid: OB = w.heap.size, DB = w.heap.size + 1. -/
structure Bc (w wr : World) (n j : Nat) (cb : Nat → Nat) (F : Nat → It) : Prop where
  below : Below w.heap.size w wr
  sz : w.heap.size + 2 ≤ wr.heap.size
  ou : ∀ i, i < j → wr.cell? ⟨w.heap.size, i, none⟩ = some (.slice (some ⟨cb i, 0, none⟩) (clen n i) (clen n i))
  ol : ∀ i, i < j → wr.cell? ⟨w.heap.size + 1, i, none⟩ = some (.slice (some ⟨cb i, 0, none⟩) (clen n i) (clen n i))
  tou : ∀ i, i < kk n → ∃ v, wr.cell? ⟨w.heap.size, i, none⟩ = some v
  tol : ∀ i, i < kk n → ∃ v, wr.cell? ⟨w.heap.size + 1, i, none⟩ = some v
  fou : ∀ i, wr.frozen? ⟨w.heap.size, i, none⟩ = false
  fol : ∀ i, wr.frozen? ⟨w.heap.size + 1, i, none⟩ = false
  lo : ∀ i, i < j → w.heap.size + 2 ≤ cb i ∧ cb i < wr.heap.size
  inj : ∀ i i', i < j → i' < j → cb i = cb i' → i = i'
  ls : ∀ i, i < j → Ls wr (cb i) (clen n i) (clen n i) (fun q => F (1024 * i + q))

theorem Bc.step {w wr wi : World} {n j : Nat} {cb : Nat → Nat} {F : Nat → It} (h : Bc w wr n j cb F) (hj : j < kk n) (hb : Below wr.heap.size wr wi) (hgl : wr.heap.size < wi.heap.size)
    (hl : Ls wi wr.heap.size (clen n j) (clen n j) (fun q => F (1024 * j + q))) :
    Bc w ((wi.setCell ⟨w.heap.size, j, none⟩ (.slice (some ⟨wr.heap.size, 0, none⟩) (clen n j) (clen n j))).setCell ⟨w.heap.size + 1, j, none⟩ (.slice (some ⟨wr.heap.size, 0, none⟩) (clen n j) (clen n j))) n (j + 1) (fun i => if i = j then wr.heap.size else cb i) F := by
  have hsz := h.sz
  have hws := hb.size
  have hf : Fp (fun b => b = w.heap.size ∨ b = w.heap.size + 1) wi ((wi.setCell ⟨w.heap.size, j, none⟩ (.slice (some ⟨wr.heap.size, 0, none⟩) (clen n j) (clen n j))).setCell ⟨w.heap.size + 1, j, none⟩ (.slice (some ⟨wr.heap.size, 0, none⟩) (clen n j) (clen n j))) :=
    ((Fp.refl (fun b => b = w.heap.size ∨ b = w.heap.size + 1) wi).setCell (p := ⟨w.heap.size, j, none⟩) (Or.inl rfl) _).setCell (p := ⟨w.heap.size + 1, j, none⟩) (Or.inr rfl) _
  obtain ⟨v1, e1⟩ := h.tou j hj
  obtain ⟨v2, e2⟩ := h.tol j hj
  have k1 := cell_grown hb e1
  have k2 := cell_grown hb e2
  have fu : ∀ i, wi.frozen? ⟨w.heap.size, i, none⟩ = false := fun i => by rw [World.frozen?_of_block (w := wr) (hb.block _ (by show w.heap.size < _; omega))]; exact h.fou i
  have fl : ∀ i, wi.frozen? ⟨w.heap.size + 1, i, none⟩ = false := fun i => by rw [World.frozen?_of_block (w := wr) (hb.block _ (by show w.heap.size + 1 < _; omega))]; exact h.fol i
  have c1 : ∀ i, i ≠ j → ((wi.setCell ⟨w.heap.size, j, none⟩ (.slice (some ⟨wr.heap.size, 0, none⟩) (clen n j) (clen n j))).setCell ⟨w.heap.size + 1, j, none⟩ (.slice (some ⟨wr.heap.size, 0, none⟩) (clen n j) (clen n j))).cell? ⟨w.heap.size, i, none⟩ = wi.cell? ⟨w.heap.size, i, none⟩ := fun i hi => by
    rw [World.cell?_setCell_other _ _ _ _ (by simp), World.cell?_setCell_other _ _ _ _ (by first | (simp; done) | (simp; omega))]
  have c2 : ∀ i, i ≠ j → ((wi.setCell ⟨w.heap.size, j, none⟩ (.slice (some ⟨wr.heap.size, 0, none⟩) (clen n j) (clen n j))).setCell ⟨w.heap.size + 1, j, none⟩ (.slice (some ⟨wr.heap.size, 0, none⟩) (clen n j) (clen n j))).cell? ⟨w.heap.size + 1, i, none⟩ = wi.cell? ⟨w.heap.size + 1, i, none⟩ := fun i hi => by
    rw [World.cell?_setCell_other _ _ _ _ (by first | (simp; done) | (simp; omega)), World.cell?_setCell_other _ _ _ _ (by simp)]
  have d1 : ((wi.setCell ⟨w.heap.size, j, none⟩ (.slice (some ⟨wr.heap.size, 0, none⟩) (clen n j) (clen n j))).setCell ⟨w.heap.size + 1, j, none⟩ (.slice (some ⟨wr.heap.size, 0, none⟩) (clen n j) (clen n j))).cell? ⟨w.heap.size, j, none⟩ = some (.slice (some ⟨wr.heap.size, 0, none⟩) (clen n j) (clen n j)) := by
    rw [World.cell?_setCell_other _ _ _ _ (by simp)]; exact World.cell?_setCell_same _ _ _ k1
  have d2 : ((wi.setCell ⟨w.heap.size, j, none⟩ (.slice (some ⟨wr.heap.size, 0, none⟩) (clen n j) (clen n j))).setCell ⟨w.heap.size + 1, j, none⟩ (.slice (some ⟨wr.heap.size, 0, none⟩) (clen n j) (clen n j))).cell? ⟨w.heap.size + 1, j, none⟩ = some (.slice (some ⟨wr.heap.size, 0, none⟩) (clen n j) (clen n j)) := by
    refine World.cell?_setCell_same _ _ _ (u := v2) ?_
    rw [World.cell?_setCell_other _ _ _ _ (by simp)]; exact k2
  have hfz : ∀ b i, ((wi.setCell ⟨w.heap.size, j, none⟩ (.slice (some ⟨wr.heap.size, 0, none⟩) (clen n j) (clen n j))).setCell ⟨w.heap.size + 1, j, none⟩ (.slice (some ⟨wr.heap.size, 0, none⟩) (clen n j) (clen n j))).frozen? ⟨b, i, none⟩ = wi.frozen? ⟨b, i, none⟩ := fun b i => by simp
  generalize (wi.setCell ⟨w.heap.size, j, none⟩ (.slice (some ⟨wr.heap.size, 0, none⟩) (clen n j) (clen n j))).setCell ⟨w.heap.size + 1, j, none⟩ (.slice (some ⟨wr.heap.size, 0, none⟩) (clen n j) (clen n j)) = W at hf c1 c2 d1 d2 hfz ⊢
  have hwW := hf.size
  refine ⟨(h.below.trans (hb.mono h.below.size)).trans (hf.below (by omega) (fun k hk => by omega)), by omega, ?_, ?_, ?_, ?_, ?_, ?_, ?_, ?_, ?_⟩
  · intro i hi
    by_cases e : i = j
    · subst e; simpa using d1
    · rw [c1 i e, if_neg e]; exact cell_grown hb (h.ou i (by omega))
  · intro i hi
    by_cases e : i = j
    · subst e; simpa using d2
    · rw [c2 i e, if_neg e]; exact cell_grown hb (h.ol i (by omega))
  · intro i hi
    by_cases e : i = j
    · subst e; exact ⟨_, d1⟩
    · rw [c1 i e]; obtain ⟨v, hv⟩ := h.tou i hi; exact ⟨v, cell_grown hb hv⟩
  · intro i hi
    by_cases e : i = j
    · subst e; exact ⟨_, d2⟩
    · rw [c2 i e]; obtain ⟨v, hv⟩ := h.tol i hi; exact ⟨v, cell_grown hb hv⟩
  · intro i; rw [hfz]; exact fu i
  · intro i; rw [hfz]; exact fl i
  · intro i hi
    by_cases e : i = j
    · rw [if_pos e]; omega
    · rw [if_neg e]; have := h.lo i (by omega); omega
  · intro i i' hi hi' he
    by_cases e : i = j
    · by_cases e' : i' = j
      · omega
      · simp only [if_pos e, if_neg e'] at he
        have := h.lo i' (by omega)
        omega
    · by_cases e' : i' = j
      · simp only [if_neg e, if_pos e'] at he
        have := h.lo i (by omega)
        omega
      · simp only [if_neg e, if_neg e'] at he
        exact h.inj i i' (by omega) (by omega) he
  · intro i hi
    by_cases e : i = j
    · subst e
      rw [if_pos rfl]
      exact hl.keep hf (by omega) hgl
    · rw [if_neg e]
      have hlo := h.lo i (by omega)
      exact ((h.ls i (by omega)).keep (X := fun _ => False) (Fp.of_below hb) (fun x => x) (by omega)).keep hf (by omega) (by omega)

theorem Bc.start (w : World) (n : Nat) (cb : Nat → Nat) (F : Nat → It) :
    Bc w ((w.alloc (.cells (madeCells #[Value.slice none 0 0] (kk n)) 61)).alloc (.cells (madeCells #[Value.slice none 0 0] (kk n)) 61)) n 0 cb F := by
  have e1 : w.heap.size < (w.alloc (.cells (madeCells #[Value.slice none 0 0] (kk n)) 61)).heap.size := by simp
  refine ⟨((Below.refl _ w).alloc (Nat.le_refl _) _).alloc (by simp) _, by simp, fun i hi => by omega, fun i hi => by omega, ?_, ?_, ?_, ?_, fun i hi => by omega, fun i i' hi => by omega, fun i hi => by omega⟩
  · intro i hi
    rw [World.cell?_alloc_past _ _ _ (by simp), World.cell?_alloc_at _ _ _ _ (by simp)]
    simp [size_madeCells, hi]
  · intro i hi
    rw [World.cell?_alloc_at _ _ _ _ (by simp)]
    simp [size_madeCells, hi]
  · intro i
    rw [World.frozen?_alloc_past _ _ _ (by simp)]
    exact World.frozen?_alloc_at _ _ _ _ (by simp)
  · intro i
    exact World.frozen?_alloc_at _ _ _ _ (by simp)

theorem bc_any (a1 a2 a3 a4 a5 : Option Addr) (n c1 c2 c3 c4 c5 : Nat) (F : Nat → It) (w : World) (hn : n ≤ 65536) (h5 : In5 w a1 a2 a3 a4 a5 n F) :
    Calls Try.prog 25 #[.slice a1 n c1, .slice a2 n c2, .slice a3 n c3, .slice a4 n c4, .slice a5 n c5] w fun e w' => ∃ cb : Nat → Nat,
      e = .returned (.tuple #[.slice (some ⟨w.heap.size, 0, none⟩) (kk n) (kk n), .slice (some ⟨w.heap.size + 1, 0, none⟩) (kk n) (kk n)]) ∧ Bc w w' n (kk n) cb F := by
  have H5 := hide h5
  clear h5
  have hk0 : ((n : Int) + 1024 - 1) / 1024 = ((kk n : Nat) : Int) := by unfold kk; omega
  have hkk : kk n ≤ 64 := by unfold kk; omega
  obtain ⟨i0, hi, hz0, hz1, hz2⟩ := info_parts Try.info61
  have hmk := fun (W : World) => run_make (P := Try.prog) W 53 61 i0 _ Try.underlying53 hi hz0 .i64 .i64 (((n : Int) + 1024 - 1) / 1024) (((n : Int) + 1024 - 1) / 1024) (by omega) (by omega) (by rw [hz2]; omega) (by omega)
  simp only [hz1, hk0, Int.toNat_natCast] at hmk
  have HMK := hide hmk
  clear hi hz0 hz1 hz2 hmk
  go_enter Try.func25, Try.ntmps25
  go_wp2_with (simp only [hk0, unhide HMK])
  have HST := hide (Bc.start w n (fun _ => 0) F)
  go_loopw [16] (fun i wr => ∃ (j : Nat) (cb : Nat → Nat), j ≤ kk n ∧ i = .int .i64 (j : Int) ∧ Bc w wr n j cb F) (fun i _ => kk n - (intOf i).toNat)
  case atStart => exact ⟨0, _, Nat.zero_le _, rfl, unhide HST⟩
  case round =>
    obtain ⟨j, cb, hj, rfl, hbc⟩ := hrel
    clear HST
    obtain ⟨wo, rfl⟩ : ∃ wo : World, wo = wr := ⟨_, rfl⟩
    have HBC := hide hbc
    by_cases hlt : j < kk n
    · have hlt' : (j : Int) < (kk n : Int) := by omega
      have hj64 : j < 64 := by omega
      by_cases hhi : (n : Int) < (j : Int) * 1024 + 1024
      · have hcl : (n : Int) - (j : Int) * 1024 = ((clen n j : Nat) : Int) := by unfold kk at hlt; unfold clen; omega
        have hge : (j : Int) * 1024 ≤ (n : Int) := by omega
        obtain ⟨i1, hi, hz0, hz1, hz2⟩ := info_parts Try.info66
        have hmk2 := fun (W : World) => run_make (P := Try.prog) W 61 66 i1 _ Try.underlying61 hi hz0 .i64 .i64 ((n : Int) - (j : Int) * 1024) ((n : Int) - (j : Int) * 1024) (by omega) (by omega) (by rw [hz2]; omega) (by omega)
        simp only [hz1, hcl, Int.toNat_natCast] at hmk2
        have HMK2 := hide hmk2
        clear hi hz0 hz1 hz2 hmk2
        go_wp2_with (simp only [unhide HMK2])
        have HL := hide (Ls.new wo (clen n j) (fun q => F (1024 * j + q)))
        have HBW := hide (hbc.below)
        obtain ⟨v1, e1⟩ := hbc.tou j hlt
        obtain ⟨v2, e2⟩ := hbc.tol j hlt
        have fu := hbc.fou j
        have fl := hbc.fol j
        have hsz := hbc.sz
        clear hbc
        go_loopw [20] (fun i wr => ∃ (x q : Nat), x = 1024 * j + q ∧ q ≤ clen n j ∧ i = .int .i64 (x : Int) ∧ Below wo.heap.size wo wr ∧ wo.heap.size < wr.heap.size ∧ Ls wr wo.heap.size (clen n j) q (fun q => F (1024 * j + q))) (fun i _ => 1024 * j + clen n j - (intOf i).toNat)
        case atStart => exact ⟨1024 * j, 0, by omega, Nat.zero_le _, by go_num, (Below.refl _ _).alloc (Nat.le_refl _) _, by simp, unhide HL⟩
        case round =>
          obtain ⟨x, q, hx, hq, rfl, hb, hgl, hl⟩ := hrel
          clear HL
          by_cases hqc : q < clen n j
          · have hxn : x < n := by unfold clen at hqc; omega
            have h30 := ia_any a1 a2 a3 a4 a5 n c1 c2 c3 c4 c5 x F wr hxn ((unhide H5).grown ((unhide HBW).trans (hb.mono (unhide HBW).size)))
            unfold It.val at h30
            have H30 := hide h30
            have hx1 : (x : Int) < (n : Int) := by omega
            have hx2 : (x : Int) - (j : Int) * 1024 = (q : Int) := by omega
            have hx3 : (q : Int) < ((clen n j : Nat) : Int) := by omega
            have hx4 : x ≤ 65536 := by omega
            have HX := hide hx
            have HCL := hide hcl
            have HHI := hide hhi
            clear h30 hx hcl hhi e1 e2 fu fl
            go_wp2_with fail
            refine (unhide H30).mono ?_
            rintro e w2 ⟨rfl, hw2⟩
            have hl2 := hl.keep (X := fun _ => False) (Fp.of_below hw2) (fun x => x) hgl
            obtain ⟨v0, r0⟩ := hl2.there (q * 5) (by omega)
            obtain ⟨v1, r1⟩ := hl2.there (q * 5 + 1) (by omega)
            obtain ⟨v2, r2⟩ := hl2.there (q * 5 + 2) (by omega)
            obtain ⟨v3, r3⟩ := hl2.there (q * 5 + 3) (by omega)
            obtain ⟨v4, r4⟩ := hl2.there (q * 5 + 4) (by omega)
            have fz := hl2.fr
            have HL2 := hide hl2
            have HB2 := hide hb
            have HW2 := hide hw2
            clear hl hl2 hb hw2
            go_wp2_with fail
            go_roundw
            case rel =>
              have hx := unhide HX
              subst hx
              have hs1 := (unhide HW2).size
              have hs2 := (unhide HB2).size
              exact ⟨1024 * j + q + 1, q + 1, by omega, by omega, by go_num, ((unhide HB2).trans ((unhide HW2).mono hs2)).trans ((set5_fp (X := fun b => b = wo.heap.size) (B := wo.heap.size) (i := q * 5) (t := F (1024 * j + q)) rfl).below (by omega) (fun b hb => by omega)), by simp; omega, (unhide HL2).set hqc⟩
            case measure =>
              have hx := unhide HX
              simp [intOf]; omega
          · obtain rfl : q = clen n j := by omega
            have hx1 : ¬ (x : Int) < (n : Int) := by omega
            have k1 := cell_grown hb e1
            have k2 := cell_grown hb e2
            have f1 : wr.frozen? ⟨w.heap.size, j, none⟩ = false := by rw [World.frozen?_of_block (w := wo) (hb.block _ (by show w.heap.size < _; omega))]; exact fu
            have f2 : wr.frozen? ⟨w.heap.size + 1, j, none⟩ = false := by rw [World.frozen?_of_block (w := wo) (hb.block _ (by show w.heap.size + 1 < _; omega))]; exact fl
            have HL2 := hide hl
            have HB2 := hide hb
            clear hl hb e1 e2 fu fl hx
            go_wp2_with fail
            go_roundw
            case rel => exact ⟨j + 1, _, by omega, by go_num, (unhide HBC).step hlt (unhide HB2) hgl (unhide HL2)⟩
            case measure => simp [intOf]; omega
      · have hcl : (j : Int) * 1024 + 1024 - (j : Int) * 1024 = ((clen n j : Nat) : Int) := by unfold kk at hlt; unfold clen; omega
        obtain ⟨i1, hi, hz0, hz1, hz2⟩ := info_parts Try.info66
        have hmk2 := fun (W : World) => run_make (P := Try.prog) W 61 66 i1 _ Try.underlying61 hi hz0 .i64 .i64 (((j : Int) * 1024 + 1024) - (j : Int) * 1024) (((j : Int) * 1024 + 1024) - (j : Int) * 1024) (by omega) (by omega) (by rw [hz2]; omega) (by omega)
        simp only [hz1, hcl, Int.toNat_natCast] at hmk2
        have HMK2 := hide hmk2
        clear hi hz0 hz1 hz2 hmk2
        go_wp2_with (simp only [unhide HMK2])
        have HL := hide (Ls.new wo (clen n j) (fun q => F (1024 * j + q)))
        have HBW := hide (hbc.below)
        obtain ⟨v1, e1⟩ := hbc.tou j hlt
        obtain ⟨v2, e2⟩ := hbc.tol j hlt
        have fu := hbc.fou j
        have fl := hbc.fol j
        have hsz := hbc.sz
        clear hbc
        go_loopw [20] (fun i wr => ∃ (x q : Nat), x = 1024 * j + q ∧ q ≤ clen n j ∧ i = .int .i64 (x : Int) ∧ Below wo.heap.size wo wr ∧ wo.heap.size < wr.heap.size ∧ Ls wr wo.heap.size (clen n j) q (fun q => F (1024 * j + q))) (fun i _ => 1024 * j + clen n j - (intOf i).toNat)
        case atStart => exact ⟨1024 * j, 0, by omega, Nat.zero_le _, by go_num, (Below.refl _ _).alloc (Nat.le_refl _) _, by simp, unhide HL⟩
        case round =>
          obtain ⟨x, q, hx, hq, rfl, hb, hgl, hl⟩ := hrel
          clear HL
          by_cases hqc : q < clen n j
          · have hxn : x < n := by unfold clen at hqc; omega
            have h30 := ia_any a1 a2 a3 a4 a5 n c1 c2 c3 c4 c5 x F wr hxn ((unhide H5).grown ((unhide HBW).trans (hb.mono (unhide HBW).size)))
            unfold It.val at h30
            have H30 := hide h30
            have hx1 : (x : Int) < ((j : Int) * 1024 + 1024) := by omega
            have hx2 : (x : Int) - (j : Int) * 1024 = (q : Int) := by omega
            have hx3 : (q : Int) < ((clen n j : Nat) : Int) := by omega
            have hx4 : x ≤ 65536 := by omega
            have HX := hide hx
            have HCL := hide hcl
            have HHI := hide hhi
            clear h30 hx hcl hhi e1 e2 fu fl
            go_wp2_with fail
            refine (unhide H30).mono ?_
            rintro e w2 ⟨rfl, hw2⟩
            have hl2 := hl.keep (X := fun _ => False) (Fp.of_below hw2) (fun x => x) hgl
            obtain ⟨v0, r0⟩ := hl2.there (q * 5) (by omega)
            obtain ⟨v1, r1⟩ := hl2.there (q * 5 + 1) (by omega)
            obtain ⟨v2, r2⟩ := hl2.there (q * 5 + 2) (by omega)
            obtain ⟨v3, r3⟩ := hl2.there (q * 5 + 3) (by omega)
            obtain ⟨v4, r4⟩ := hl2.there (q * 5 + 4) (by omega)
            have fz := hl2.fr
            have HL2 := hide hl2
            have HB2 := hide hb
            have HW2 := hide hw2
            clear hl hl2 hb hw2
            go_wp2_with fail
            go_roundw
            case rel =>
              have hx := unhide HX
              subst hx
              have hs1 := (unhide HW2).size
              have hs2 := (unhide HB2).size
              exact ⟨1024 * j + q + 1, q + 1, by omega, by omega, by go_num, ((unhide HB2).trans ((unhide HW2).mono hs2)).trans ((set5_fp (X := fun b => b = wo.heap.size) (B := wo.heap.size) (i := q * 5) (t := F (1024 * j + q)) rfl).below (by omega) (fun b hb => by omega)), by simp; omega, (unhide HL2).set hqc⟩
            case measure =>
              have hx := unhide HX
              simp [intOf]; omega
          · obtain rfl : q = clen n j := by omega
            have hx1 : ¬ (x : Int) < ((j : Int) * 1024 + 1024) := by omega
            have k1 := cell_grown hb e1
            have k2 := cell_grown hb e2
            have f1 : wr.frozen? ⟨w.heap.size, j, none⟩ = false := by rw [World.frozen?_of_block (w := wo) (hb.block _ (by show w.heap.size < _; omega))]; exact fu
            have f2 : wr.frozen? ⟨w.heap.size + 1, j, none⟩ = false := by rw [World.frozen?_of_block (w := wo) (hb.block _ (by show w.heap.size + 1 < _; omega))]; exact fl
            have HL2 := hide hl
            have HB2 := hide hb
            clear hl hb e1 e2 fu fl hx
            go_wp2_with fail
            go_roundw
            case rel => exact ⟨j + 1, _, by omega, by go_num, (unhide HBC).step hlt (unhide HB2) hgl (unhide HL2)⟩
            case measure => simp [intOf]; omega
    · obtain rfl : j = kk n := by omega
      go_wp2_with fail
      go_ret2
      exact ⟨cb, rfl, unhide HBC⟩
end Go.Proofs.Qxb6605272a
