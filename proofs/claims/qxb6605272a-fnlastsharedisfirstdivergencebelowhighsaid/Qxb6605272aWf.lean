import Derived.Test.Qxb6605272aWe
/-! toHistory (12), and the walk of the law FnLastSharedIsFirstDivergenceBelowHigh (3). -/
namespace Go.Proofs.Qxb6605272a
open Go.RowKit
set_option maxHeartbeats 2000000
set_option maxRecDepth 100000

/-- Two stores side by side into a block of one's own. -/
theorem set2 (wr : World) (B j : Nat) (u0 u1 : Value) {v0 v1 : Value} (h0 : wr.cell? ⟨B, j, none⟩ = some v0) (h1 : wr.cell? ⟨B, j + 1, none⟩ = some v1) :
    ((wr.setCell ⟨B, j, none⟩ u0).setCell ⟨B, j + 1, none⟩ u1).drew.cell? ⟨B, j, none⟩ = some u0 ∧
    ((wr.setCell ⟨B, j, none⟩ u0).setCell ⟨B, j + 1, none⟩ u1).drew.cell? ⟨B, j + 1, none⟩ = some u1 ∧
    (∀ b i, (b = B → i ≠ j ∧ i ≠ j + 1) → ((wr.setCell ⟨B, j, none⟩ u0).setCell ⟨B, j + 1, none⟩ u1).drew.cell? ⟨b, i, none⟩ = wr.cell? ⟨b, i, none⟩) := by
  refine ⟨?_, ?_, ?_⟩
  · rw [World.cell?_drew, World.cell?_setCell_other _ _ _ _ (by simp)]
    exact World.cell?_setCell_same _ _ _ h0
  · rw [World.cell?_drew]
    refine World.cell?_setCell_same _ _ _ (u := v1) ?_
    rw [World.cell?_setCell_other _ _ _ _ (by simp)]
    exact h1
  · intro b i h
    rw [World.cell?_drew, World.cell?_setCell_other _ _ _ _ (by simp; intro e; have := h e.symm; omega), World.cell?_setCell_other _ _ _ _ (by simp; intro e; have := h e.symm; omega)]

theorem th_some (b off cap : Nat) (xs : Hs) (w : World) (hl : xs.length ≤ 4096)
    (hd : ∀ i (h : i < xs.length), w.cell? ⟨b, off + i * 2, none⟩ = some (.int .u64 xs[i].1) ∧ w.cell? ⟨b, off + i * 2 + 1, none⟩ = some (.int .u64 xs[i].2)) :
    Calls Try.prog 12 #[.slice (some ⟨b, off, none⟩) xs.length cap] w fun e w' => e = .returned (.slice (some ⟨w.heap.size, 0, none⟩) xs.length xs.length) ∧ Below w.heap.size w w' ∧
      (∀ i (h : i < xs.length), w'.cell? ⟨w.heap.size, 0 + i * 2, none⟩ = some (.int .u64 xs[i].1) ∧ w'.cell? ⟨w.heap.size, 0 + i * 2 + 1, none⟩ = some (.int .u64 xs[i].2)) := by
  obtain ⟨i0, hi, hz0, hz1, hz2⟩ := info_parts Try.info35
  have hmk := fun (W : World) => run_make (P := Try.prog) W 27 35 i0 _ Try.underlying27 hi hz0 .i64 .i64 (xs.length : Int) (xs.length : Int) (by omega) (by omega) (by rw [hz2]; omega) (by omega)
  simp only [hz1, Int.toNat_natCast] at hmk
  clear hi hz0 hz1 hz2
  have hnil := fun (W : World) (a : Option Addr) (n c n' c' : Nat) => Lib.run_eql_slice_nil (P := Try.prog) W 22 34 a n c n' c' Try.underlying22
  go_enter Try.func12, Try.ntmps12
  go_wp2
  clear hmk hnil
  have hsz : ∀ j, j < xs.length * 2 → ∃ v, (w.alloc (.cells (madeCells (Value.agg #[.int .u64 0, .int .u64 0]).cells (xs.length * 2)) 35)).cell? ⟨w.heap.size, j, none⟩ = some v := by
    intro j hj
    simp [World.cell?_alloc_at, size_madeCells, hj]
  have hfz : ∀ j, (w.alloc (.cells (madeCells (Value.agg #[.int .u64 0, .int .u64 0]).cells (xs.length * 2)) 35)).frozen? ⟨w.heap.size, j, none⟩ = false := by
    intro j
    simp
  have hbl : Below w.heap.size w (w.alloc (.cells (madeCells (Value.agg #[.int .u64 0, .int .u64 0]).cells (xs.length * 2)) 35)) := (Below.refl _ _).alloc (Nat.le_refl _) _
  go_loopw [4] (fun i wr => ∃ k : Nat, k ≤ xs.length ∧ i = .int .i64 k ∧ Below w.heap.size w wr ∧ (∀ j, j < xs.length * 2 → ∃ v, wr.cell? ⟨w.heap.size, j, none⟩ = some v) ∧ (∀ j, wr.frozen? ⟨w.heap.size, j, none⟩ = false) ∧
      (∀ i (h : i < k) (h' : i < xs.length), wr.cell? ⟨w.heap.size, 0 + i * 2, none⟩ = some (.int .u64 xs[i].1) ∧ wr.cell? ⟨w.heap.size, 0 + i * 2 + 1, none⟩ = some (.int .u64 xs[i].2))) (fun i _ => xs.length - (intOf i).toNat)
  case atStart => exact ⟨0, Nat.zero_le _, rfl, hbl, hsz, hfz, fun i h => absurd h (by omega)⟩
  case round =>
    obtain ⟨k, hk, rfl, hbr, hcr, hfr, hdr⟩ := hrel
    clear hsz hfz hbl
    by_cases hlt : k < xs.length
    · have hc0 := cell_grown hbr (hd k hlt).1
      have hc1 := cell_grown hbr (hd k hlt).2
      obtain ⟨v0, hv0⟩ := hcr (k * 2) (by omega)
      obtain ⟨v1, hv1⟩ := hcr (k * 2 + 1) (by omega)
      have hf0 := hfr (k * 2)
      have hf1 := hfr (k * 2 + 1)
      go_wp2
      go_region
      go_wp2
      obtain ⟨s0, s1, s2⟩ := set2 wr w.heap.size (k * 2) (.int .u64 xs[k].1) (.int .u64 xs[k].2) hv0 hv1
      go_roundw
      case rel =>
        refine ⟨k + 1, by omega, by go_num, ((hbr.setCell (Nat.le_refl _) _).setCell (Nat.le_refl _) _).drew, ?_, ?_, ?_⟩
        · intro j hj
          by_cases e0 : j = k * 2
          · subst e0; exact ⟨_, s0⟩
          · by_cases e1 : j = k * 2 + 1
            · subst e1; exact ⟨_, s1⟩
            · rw [s2 _ _ (fun _ => ⟨e0, e1⟩)]; exact hcr j hj
        · intro j; simpa using hfr j
        · intro i hi hi'
          by_cases e : i = k
          · subst e; rw [Nat.zero_add]; exact ⟨s0, s1⟩
          · rw [s2 _ _ (fun _ => by omega), s2 _ _ (fun _ => by omega)]; exact hdr i (by omega) hi'
      case measure => simp [intOf]; omega
    · go_wp2
      go_ret
      exact ⟨rfl, hbr, fun i hi => hdr i (by omega) hi⟩

theorem th_none (cap : Nat) (w : World) :
    Calls Try.prog 12 #[.slice none 0 cap] w fun e w' => e = .returned (.slice none 0 0) ∧ w' = w := by
  have hnil := fun (W : World) (a : Option Addr) (n c n' c' : Nat) => Lib.run_eql_slice_nil (P := Try.prog) W 22 34 a n c n' c' Try.underlying22
  go_enter Try.func12, Try.ntmps12
  go_wp2
  go_ret
  exact ⟨rfl, rfl⟩

theorem th_empty (x : Addr) (cap : Nat) (w : World) :
    Calls Try.prog 12 #[.slice (some x) 0 cap] w fun e w' => e = .returned (.slice (some ⟨w.heap.size, 0, none⟩) 0 0) ∧ Below w.heap.size w w' := by
  obtain ⟨i0, hi, hz0, hz1, hz2⟩ := info_parts Try.info35
  have hmk := fun (W : World) => run_make (P := Try.prog) W 27 35 i0 _ Try.underlying27 hi hz0 .i64 .i64 0 0 (by omega) (by omega) (by rw [hz2]; omega) (by omega)
  simp only [hz1] at hmk
  clear hi hz0 hz1 hz2
  have hnil := fun (W : World) (a : Option Addr) (n c n' c' : Nat) => Lib.run_eql_slice_nil (P := Try.prog) W 22 34 a n c n' c' Try.underlying22
  go_enter Try.func12, Try.ntmps12
  go_wp2
  clear hmk hnil
  refine wp_loop_rounds 1 ?_
  rw [rounds_succ]
  go_wp2
  go_ret
  exact ⟨rfl, (Below.refl _ _).alloc (Nat.le_refl _) _⟩

/-- toHistory: a copy. -/
theorem th_any (a : Option Addr) (cap : Nat) (xs : Hs) (w : World) (hl : xs.length ≤ 4096) (hd : Hist w a xs) :
    Calls Try.prog 12 #[.slice a xs.length cap] w fun e w' => ∃ a' c', e = .returned (.slice a' xs.length c') ∧ Below w.heap.size w w' ∧ Hist w' a' xs := by
  rcases hd with rfl | ⟨b, off, rfl, hc⟩
  · cases a with
    | none => exact (th_none cap w).mono fun e w' ⟨h1, h2⟩ => ⟨none, 0, h1, h2 ▸ Below.refl _ _, Or.inl rfl⟩
    | some x => exact (th_empty x cap w).mono fun e w' ⟨h1, h2⟩ => ⟨_, _, h1, h2, Or.inl rfl⟩
  · exact (th_some b off cap xs w hl hc).mono fun e w' ⟨h1, h2, h3⟩ => ⟨_, _, h1, h2, Or.inr ⟨_, _, rfl, h3⟩⟩

theorem div_any (a b : Option Addr) (ca cb : Nat) (xs ys : Hs) (high : Int) (w : World) (hl : xs.length ≤ 9223372036854775807) (hl' : ys.length ≤ 9223372036854775807) (hx : Hist w a xs) (hy : Hist w b ys)
    (hxb : ∀ i (h : i < xs.length), 0 ≤ xs[i].2 ∧ xs[i].2 ≤ 18446744073709551615) (hyb : ∀ i (h : i < ys.length), 0 ≤ ys[i].2 ∧ ys[i].2 ≤ 18446744073709551615) (hh0 : 0 ≤ high) (hh1 : high ≤ 18446744073709551615) :
    Calls Try.prog 3 #[.slice a xs.length ca, .slice b ys.length cb, .int .u64 high] w fun e w' => e = .returned (.bool true) ∧ Below w.heap.size w w' := by
  have h9 := zb9_any a b xs.length ca ys.length cb (.int .u64 high) w hl hl'
  have HX := hide hx
  have HY := hide hy
  have HXB := hide hxb
  have HYB := hide hyb
  clear hx hy hxb hyb
  go_enter Try.func3, Try.ntmps3
  go_wp2_with fail
  refine h9.mono ?_
  rintro e w1 ⟨hr, hw1⟩
  subst hw1
  clear h9
  rcases hr with rfl | rfl
  rotate_left
  · go_wp2_with fail
    go_ret
    exact ⟨rfl, Below.refl _ _⟩
  by_cases hx4 : 4096 < xs.length
  · go_wp2_with fail
    go_ret
    exact ⟨rfl, Below.refl _ _⟩
  by_cases hy4 : 4096 < ys.length
  · go_wp2_with fail
    go_ret
    exact ⟨rfl, Below.refl _ _⟩
  have hA := has_any a ca xs 18446744073709551615 w1 hl (unhide HX)
  have hB := has_any b cb ys 18446744073709551615 w1 hl' (unhide HY)
  go_wp2_with fail
  refine hA.mono ?_
  rintro e w2 ⟨rfl, hw2⟩
  subst hw2
  clear hA
  cases hha : hasB xs 18446744073709551615
  rotate_left
  · go_wp2_with fail
    go_ret
    exact ⟨rfl, Below.refl _ _⟩
  go_wp2_with fail
  refine hB.mono ?_
  rintro e w3 ⟨rfl, hw3⟩
  subst hw3
  clear hB
  cases hhb : hasB ys 18446744073709551615
  rotate_left
  · go_wp2_with fail
    go_ret
    exact ⟨rfl, Below.refl _ _⟩
  have hokx := hok_of_has (unhide HXB) hha
  have hoky := hok_of_has (unhide HYB) hhb
  have HOX := hide hokx
  have HOY := hide hoky
  have h12 := th_any a ca xs w3 (by omega) (unhide HX)
  clear hha hhb hokx hoky HXB HYB
  go_wp2_with fail
  refine h12.mono ?_
  rintro e w4 ⟨a', c', rfl, hb4, hx4'⟩
  have h12' := th_any b cb ys w4 (by omega) ((unhide HY).grown hb4)
  have HB4 := hide hb4
  have HX4 := hide hx4'
  clear h12 hb4 hx4'
  go_wp2_with fail
  refine h12'.mono ?_
  rintro e w5 ⟨b', d', rfl, hb5, hy5⟩
  have h11 := zls_any a' b' c' d' xs ys high w5 hl hl' ((unhide HX4).grown hb5) hy5 (unhide HOX) (unhide HOY) hh0 hh1
  have HB5 := hide ((unhide HB4).trans (hb5.mono (unhide HB4).size))
  clear h12' hb5 hy5 HB4 HX4
  go_wp2_with fail
  refine h11.mono ?_
  rintro e w6 ⟨rfl, hb6⟩
  clear h11
  have hokz : HOk (xs ++ ys) := fun i hi => by
    have hm : (xs ++ ys)[i] ∈ xs ++ ys := List.getElem_mem hi
    rcases List.mem_append.1 hm with h | h
    · exact hok_mem (unhide HOX) h
    · exact hok_mem (unhide HOY) h
  have hbd := foldS_bd xs ys high (xs ++ ys) hokz hh0
  have hsh := fold_shared xs ys high (xs ++ ys) hokz hh0
  have hag := fold_agree xs ys high (unhide HOX) (unhide HOY) hh0 _ rfl
  have hwh := fold_where xs ys high (xs ++ ys)
  have hb6' : Below w3.heap.size w3 w6 := (unhide HB5).trans (hb6.mono (unhide HB5).size)
  generalize foldS xs ys high (xs ++ ys) = got at *
  have hx6 := (unhide HX).grown hb6'
  have hy6 := (unhide HY).grown hb6'
  have s1 := sw_yes a a b ca ca cb xs xs ys got w6 hl hl hl' hx6 hx6 hy6 (unhide HOX) (fun e he => hsh e (List.mem_append.2 (Or.inl he)))
  have s2 := sw_yes b a b cb ca cb ys xs ys got w6 hl' hl hl' hy6 hx6 hy6 (unhide HOY) (fun e he => hsh e (List.mem_append.2 (Or.inr he)))
  have b1 := bo_any a ca xs got w6 hl hx6
  have b2 := bo_any b cb ys got w6 hl' hy6
  have g1 := has_any a ca xs got w6 hl hx6
  have g2 := has_any b cb ys got w6 hl' hy6
  have sa := sa_any a b ca cb xs ys (got + 1) w6 hl hl' hx6 hy6
  rw [← hag.1, ← hag.2] at b2
  have HWH := hide hwh
  have HB6 := hide hb6'
  clear hx6 hy6 hb6 hb6' hag hwh hsh hokz
  go_wp2_with fail
  refine s1.mono ?_
  rintro e w7 ⟨rfl, hw7⟩
  subst hw7
  clear s1
  go_wp2_with fail
  refine s2.mono ?_
  rintro e w8 ⟨rfl, hw8⟩
  subst hw8
  clear s2
  have fin : ∀ (hne : (got == high) = false), (hasB xs got = true ∨ hasB xs got = false ∧ hasB ys got = true) ∧ sharedB xs ys (got + 1) = false ∧ IntKind.u64.wrap (got + 1) = got + 1 := by
    intro hne
    have hne' : ¬ got = high := by simpa using hne
    rcases unhide HWH with h | ⟨e, he, h1, h2⟩
    · exact absurd h hne'
    · refine ⟨?_, by rw [h1]; exact h2, by rw [IntKind.wrap_u64]; omega⟩
      rcases List.mem_append.1 he with h | h
      · left; rw [h1]; exact hasB_mem h
      · cases hq : hasB xs got
        · right; exact ⟨rfl, by rw [h1]; exact hasB_mem h⟩
        · left; rfl
  have FIN := hide fin
  clear fin
  by_cases hg : 1 ≤ got
  · go_wp2_with fail
    refine b1.mono ?_
    rintro e w9 ⟨rfl, hw9⟩
    subst hw9
    clear b1
    go_wp2_with fail
    refine b2.mono ?_
    rintro e w10 ⟨rfl, hw10⟩
    subst hw10
    clear b2
    cases hgh : (got == high)
    · obtain ⟨f1, f2, f3⟩ := unhide FIN hgh
      rw [f2] at sa
      rcases f1 with f1 | ⟨f1, f1'⟩
      · rw [f1] at g1
        go_wp2_with fail
        refine g1.mono ?_
        rintro e w11 ⟨rfl, hw11⟩
        subst hw11
        clear g1
        go_wp2_with fail
        refine sa.mono ?_
        rintro e w12 ⟨rfl, hw12⟩
        subst hw12
        clear sa
        go_wp2_with fail
        go_ret
        exact ⟨rfl, unhide HB6⟩
      · rw [f1] at g1
        rw [f1'] at g2
        go_wp2_with fail
        refine g1.mono ?_
        rintro e w11 ⟨rfl, hw11⟩
        subst hw11
        clear g1
        go_wp2_with fail
        refine g2.mono ?_
        rintro e w12 ⟨rfl, hw12⟩
        subst hw12
        clear g2
        go_wp2_with fail
        refine sa.mono ?_
        rintro e w13 ⟨rfl, hw13⟩
        subst hw13
        clear sa
        go_wp2_with fail
        go_ret
        exact ⟨rfl, unhide HB6⟩
    · go_wp2_with fail
      go_ret
      exact ⟨rfl, unhide HB6⟩
  · cases hgh : (got == high)
    · obtain ⟨f1, f2, f3⟩ := unhide FIN hgh
      rw [f2] at sa
      rcases f1 with f1 | ⟨f1, f1'⟩
      · rw [f1] at g1
        go_wp2_with fail
        refine g1.mono ?_
        rintro e w11 ⟨rfl, hw11⟩
        subst hw11
        clear g1
        go_wp2_with fail
        refine sa.mono ?_
        rintro e w12 ⟨rfl, hw12⟩
        subst hw12
        clear sa
        go_wp2_with fail
        go_ret
        exact ⟨rfl, unhide HB6⟩
      · rw [f1] at g1
        rw [f1'] at g2
        go_wp2_with fail
        refine g1.mono ?_
        rintro e w11 ⟨rfl, hw11⟩
        subst hw11
        clear g1
        go_wp2_with fail
        refine g2.mono ?_
        rintro e w12 ⟨rfl, hw12⟩
        subst hw12
        clear g2
        go_wp2_with fail
        refine sa.mono ?_
        rintro e w13 ⟨rfl, hw13⟩
        subst hw13
        clear sa
        go_wp2_with fail
        go_ret
        exact ⟨rfl, unhide HB6⟩
    · go_wp2_with fail
      go_ret
      exact ⟨rfl, unhide HB6⟩
end Go.Proofs.Qxb6605272a
