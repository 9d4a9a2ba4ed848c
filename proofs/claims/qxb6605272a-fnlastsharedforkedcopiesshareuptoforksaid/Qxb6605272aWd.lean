import Derived.Test.Qxb6605272aWc
/-! The law FnLastSharedForkedCopiesShareUpToFork (4): the plain law, and the walk. -/
namespace Go.Proofs.Qxb6605272a
open Go.RowKit
set_option maxHeartbeats 2000000
set_option maxRecDepth 100000
set_option linter.unusedSimpArgs false

theorem brOk_mem {xs : Hs} {s : Int} {e : Int × Int} (he : e ∈ xs) (h : e.2 < s) : brOk xs s = true := by
  induction xs with
  | nil => cases he
  | cons x xs ih =>
    simp only [brOk]
    split
    · rfl
    · rcases List.mem_cons.1 he with rfl | he'
      · contradiction
      · exact ih he'

theorem fork_step (i1 i2 f : Int) (xs : Hs) (sh : Int) (hsh : sh ≤ f) (e : Int × Int) (he : e ∈ (i1, f) :: xs ∨ e ∈ (i2, f) :: xs) :
    stepS ((i1, f) :: xs) ((i2, f) :: xs) sh e = sh := by
  unfold stepS
  split
  · rfl
  · rename_i hlt
    have h1 : ¬ f < e.2 + 1 := by omega
    have hm : e ∈ xs := by
      rcases he with h | h
      · rcases List.mem_cons.1 h with rfl | h
        · exact absurd (show f < f + 1 by omega) h1
        · exact h
      · rcases List.mem_cons.1 h with rfl | h
        · exact absurd (show f < f + 1 by omega) h1
        · exact h
    have hs : sharedB ((i1, f) :: xs) ((i2, f) :: xs) (e.2 + 1) = true := by
      simp only [sharedB, brOk, brId, if_neg h1]
      rw [brOk_mem hm (by omega)]
      simp
    rw [if_pos hs]

theorem fork_keep (i1 i2 f : Int) (xs : Hs) (sh : Int) (hsh : sh ≤ f) (zs : Hs) (hz : ∀ e, e ∈ zs → e ∈ (i1, f) :: xs ∨ e ∈ (i2, f) :: xs) :
    foldS ((i1, f) :: xs) ((i2, f) :: xs) sh zs = sh := by
  induction zs with
  | nil => rfl
  | cons e zs ih =>
    have e1 : foldS ((i1, f) :: xs) ((i2, f) :: xs) sh (e :: zs) = foldS ((i1, f) :: xs) ((i2, f) :: xs) (stepS ((i1, f) :: xs) ((i2, f) :: xs) sh e) zs := rfl
    rw [e1, fork_step i1 i2 f xs sh hsh e (hz e (by simp))]
    exact ih (fun e he => hz e (by simp [he]))

theorem fork_all (i1 i2 f high : Int) (xs : Hs) (hne : i1 ≠ i2) :
    foldS ((i1, f) :: xs) ((i2, f) :: xs) high (((i1, f) :: xs) ++ ((i2, f) :: xs)) = if high < f then high else f := by
  have e1 : foldS ((i1, f) :: xs) ((i2, f) :: xs) high (((i1, f) :: xs) ++ ((i2, f) :: xs)) = foldS ((i1, f) :: xs) ((i2, f) :: xs) (stepS ((i1, f) :: xs) ((i2, f) :: xs) high (i1, f)) (xs ++ ((i2, f) :: xs)) := rfl
  have h0 : stepS ((i1, f) :: xs) ((i2, f) :: xs) high (i1, f) = if high < f then high else f := by
    have hs : sharedB ((i1, f) :: xs) ((i2, f) :: xs) (f + 1) = false := by
      simp [sharedB, brOk, brId, show f < f + 1 by omega, hne]
    have hs' : ¬ sharedB ((i1, f) :: xs) ((i2, f) :: xs) (f + 1) = true := by rw [hs]; simp
    unfold stepS
    rw [if_neg hs']
    split <;> split <;> omega
  rw [e1, h0]
  refine fork_keep i1 i2 f xs _ (by split <;> omega) _ (fun e he => ?_)
  rcases List.mem_append.1 he with h | h
  · exact Or.inl (by simp [h])
  · exact Or.inr h

theorem zb16_any (a : Option Addr) (n cap : Nat) (v1 v2 v3 v4 : Value) (w : World) (hl : n ≤ 9223372036854775807) :
    Calls Try.prog 16 #[.slice a n cap, v1, v2, v3, v4] w fun e w' => (e = .returned (.bool true) ∨ e = .returned (.bool false)) ∧ w' = w := by
  go_enter Try.func16, Try.ntmps16
  go_wp2
  all_goals
    go_ret
    refine ⟨?_, rfl⟩
    first | exact Or.inl rfl | exact Or.inr rfl

theorem fork_any (a : Option Addr) (cap : Nat) (xs : Hs) (f i1 i2 high : Int) (w : World) (hl : xs.length ≤ 9223372036854775807) (hx : Hist w a xs)
    (hx0 : ∀ i (h : i < xs.length), 0 ≤ xs[i].2) (hf0 : 0 ≤ f) (hf1 : f ≤ 18446744073709551615) (hh0 : 0 ≤ high) (hh1 : high ≤ 18446744073709551615) :
    Calls Try.prog 4 #[.slice a xs.length cap, .int .u64 f, .int .u64 i1, .int .u64 i2, .int .u64 high] w fun e w' => e = .returned (.bool true) ∧ Below w.heap.size w w' := by
  have h16 := zb16_any a xs.length cap (.int .u64 f) (.int .u64 i1) (.int .u64 i2) (.int .u64 high) w hl
  have HX := hide hx
  have HX0 := hide hx0
  clear hx hx0
  go_enter Try.func4, Try.ntmps4
  go_wp2_with fail
  refine h16.mono ?_
  rintro e w1 ⟨hr, hw1⟩
  subst hw1
  clear h16
  rcases hr with rfl | rfl
  rotate_left
  · go_wp2_with fail
    go_ret
    exact ⟨rfl, Below.refl _ _⟩
  by_cases hlen : 4096 < xs.length
  · go_wp2_with fail
    go_ret
    exact ⟨rfl, Below.refl _ _⟩
  cases hie : (i1 == i2)
  rotate_left
  · go_wp2_with fail
    go_ret
    exact ⟨rfl, Below.refl _ _⟩
  cases hfe : (f == 18446744073709551615)
  rotate_left
  · go_wp2_with fail
    go_ret
    exact ⟨rfl, Below.refl _ _⟩
  go_wp2_with fail
  go_loop [11] (fun i => ∃ k : Nat, k ≤ xs.length ∧ i = .int .i64 k ∧ ∀ i (h : i < xs.length), i < k → xs[i].2 ≤ f) (fun i => xs.length - (intOf i).toNat)
  case atStart => exact ⟨0, Nat.zero_le _, rfl, fun i _ h => by omega⟩
  case round =>
    obtain ⟨k, hk, rfl, hle⟩ := hrel
    have HLE := hide hle
    clear hle
    by_cases hlt : k < xs.length
    · rcases unhide HX with h0 | ⟨b, off, hav, hc⟩
      · rw [h0] at hlt; simp at hlt
      have d1 := (hc k hlt).2
      clear hc
      subst hav
      by_cases hgt : f < xs[k].2
      · go_wp2_with fail
        go_ret
        exact ⟨rfl, Below.refl _ _⟩
      · go_wp2_with fail
        go_round
        case rel => exact ⟨k + 1, by omega, by go_num, fun i hi hik => by by_cases e : i = k; (subst e; omega); exact unhide HLE i hi (by omega)⟩
        case measure => simp [intOf]; omega
    · have HLE' := hide (show ∀ i (h : i < xs.length), xs[i].2 ≤ f from fun i hi => unhide HLE i hi (by omega))
      clear HLE
      have hf2 : f ≤ 18446744073709551614 := by simp at hfe; omega
      have HIE := hide hie
      obtain ⟨i0, hi, hz0, hz1, hz2⟩ := info_parts Try.info35
      have HI0 := hide hi
      have HZ1 := hide hz1
      have hmk := fun (W : World) => run_make (P := Try.prog) W 27 35 i0 _ Try.underlying27 hi hz0 .i64 .i64 0 ((xs.length : Int) + 1) (by omega) (by omega) (by rw [hz2]; omega) (by omega)
      have et : ((xs.length : Int) + 1).toNat = xs.length + 1 := by omega
      simp only [hz1, Int.toNat_zero, et] at hmk
      clear hi hz0 hz1 hz2 et
      go_upto_region 14 with (fail)
      obtain ⟨q1, q2, q3, q4⟩ := start2 w1 (xs.length + 1)
      generalize (w1.alloc (.cells (madeCells #[.int .u64 0, .int .u64 0] ((xs.length + 1) * 2)) 35)).alloc (.cells (madeCells #[.int .u64 0, .int .u64 0] ((xs.length + 1) * 2)) 35) = W0 at q1 q2 q3 q4 ⊢
      generalize hA : w1.heap.size = A at q1 q2 q4 ⊢
      generalize hB : A + 1 = B at q2 q4 ⊢
      have ab : A ≠ B := by omega
      have gA : A < W0.heap.size := by omega
      have HS := hide (And.intro hA hB)
      have HQ3 := hide q3
      clear hmk hA hB q3
      go_upto_region 15 with (at_builtin; refine wpList_room _ rfl (.tmp 54) (.tmp 58) 27 rfl 35 i0 2 Try.underlying27 (unhide HI0) (unhide HZ1) A 0 0 (xs.length + 1) rfl ⟨W0.heap.size, 0, none⟩ 1 1 [.int .u64 i1, .int .u64 f] rfl rfl (news2 W0 i1 f 35) (one2 i1 f) (by omega) (spare2 q1 gA (by omega) _ i1 f) ?_; generalize hW1 : World.setCells (W0.alloc (.cells #[.int .u64 i1, .int .u64 f] 35)) A (0 + 0 * 2) [.int .u64 i1, .int .u64 f] = W1)
      obtain ⟨y1, y2⟩ := q1.after (q := 0) gA rfl (by omega) (.cells #[.int .u64 i1, .int .u64 f] 35) (i1, f)
      simp only [List.nil_append] at y1 y2
      rw [hW1] at y1 y2
      have y3 := q2.keep y2 q4 (by simp; omega)
      have gB : B < W1.heap.size := Nat.lt_of_lt_of_le q4 y2.size
      have gA1 : A < W1.heap.size := Nat.lt_of_lt_of_le gA y2.size
      have HY2 := hide y2
      clear hW1 y2 q1 q2
      go_upto_region 16 with (at_builtin; refine wpList_room _ rfl (.tmp 60) (.tmp 64) 27 rfl 35 i0 2 Try.underlying27 (unhide HI0) (unhide HZ1) B 0 0 (xs.length + 1) rfl ⟨W1.heap.size, 0, none⟩ 1 1 [.int .u64 i2, .int .u64 f] rfl rfl (news2 W1 i2 f 35) (one2 i2 f) (by omega) (spare2 y3 gB (by omega) _ i2 f) ?_; generalize hW2 : World.setCells (W1.alloc (.cells #[.int .u64 i2, .int .u64 f] 35)) B (0 + 0 * 2) [.int .u64 i2, .int .u64 f] = W2)
      obtain ⟨z1, z2⟩ := y3.after (q := 0) gB rfl (by omega) (.cells #[.int .u64 i2, .int .u64 f] 35) (i2, f)
      simp only [List.nil_append] at z1 z2
      rw [hW2] at z1 z2
      have z3 := y1.keep z2 gA1 (by simp; omega)
      have HZ2 := hide z2
      have HBW := hide (show Below w1.heap.size w1 W2 from (unhide HQ3).trans (((unhide HY2).below (unhide HQ3).size (by have := unhide HS; simp; omega)).trans (z2.below (Nat.le_trans (unhide HQ3).size (unhide HY2).size) (by have := unhide HS; simp; omega))))
      have gB2 : B < W2.heap.size := Nat.lt_of_lt_of_le gB z2.size
      have gA2 : A < W2.heap.size := Nat.lt_of_lt_of_le gA1 z2.size
      have HR1 := hide z3
      have HR2 := hide z1
      clear hW2 z1 z2 z3 y1 y3 q4 gA gA1 gB
      go_wp2_with fail
      go_loopw [12, 13, 14] (fun sa sb i wr => ∃ k : Nat, k ≤ xs.length ∧ i = .int .i64 k ∧ sa = .slice (some ⟨A, 0, none⟩) (k + 1) (xs.length + 1) ∧ sb = .slice (some ⟨B, 0, none⟩) (k + 1) (xs.length + 1) ∧
          HRow wr A (xs.length + 1) ((i1, f) :: xs.take k) ∧ HRow wr B (xs.length + 1) ((i2, f) :: xs.take k) ∧ Below w1.heap.size w1 wr ∧ A < wr.heap.size ∧ B < wr.heap.size) (fun _ _ i _ => xs.length - (intOf i).toNat)
      case atStart => exact ⟨0, Nat.zero_le _, rfl, rfl, rfl, by simpa using unhide HR1, by simpa using unhide HR2, unhide HBW, gA2, gB2⟩
      case round =>
        clear HR1 HR2 HBW gA2 gB2 HZ2 HY2
        obtain ⟨k, hk, rfl, rfl, rfl, hr1, hr2, hbr, gA, gB⟩ := hrel
        obtain ⟨w3, rfl⟩ : ∃ wo : World, wo = wr := ⟨_, rfl⟩
        by_cases hlt : k < xs.length
        · rcases unhide HX with h0 | ⟨b, off, hav, hc⟩
          · rw [h0] at hlt; simp at hlt
          have hlk : k + 1 = ((i1, f) :: xs.take k).length := by simp; omega
          have hlk2 : k + 1 = ((i2, f) :: xs.take k).length := by simp; omega
          have d0 := cell_grown hbr (hc k hlt).1
          have d1 := cell_grown hbr (hc k hlt).2
          have HC := hide (hc k hlt)
          obtain ⟨y1, y2⟩ := hr1.afterd gA hlk (by omega) (.cells #[.int .u64 xs[k].1, .int .u64 xs[k].2] 35) xs[k]
          have ht : xs.take (k + 1) = xs.take k ++ [xs[k]] := List.take_succ_eq_append_getElem hlt
          have HT := hide ht
          have HY := hide (And.intro y1 y2)
          have HR1 := hide hr1
          have HR2 := hide hr2
          have HBR := hide hbr
          have HLK2 := hide hlk2
          clear hc ht y1 y2 hr1 hr2 hbr hlk hlk2
          subst hav
          go_upto_region 19 with (fail)
          go_cut [12] (fun s12 wc => s12 = .slice (some ⟨A, 0, none⟩) (k + 1 + 1) (xs.length + 1) ∧ HRow wc A (xs.length + 1) ((i1, f) :: xs.take (k + 1)) ∧ Fr [A] w3 wc)
          case first =>
            go_region_law (refine step_append_room rfl (.tmp 72) (.tmp 84) 27 rfl 35 i0 2 Try.underlying27 (unhide HI0) (unhide HZ1) A 0 (k + 1) (xs.length + 1) (by simp [Act.eval, Act.put]) ⟨w3.heap.size, 0, none⟩ 1 1 [.int .u64 xs[k].1, .int .u64 xs[k].2] (by simp [Act.eval, Act.put]) rfl (news2d w3 xs[k].1 xs[k].2 35) (one2 xs[k].1 xs[k].2) (by omega) (spare2d (unhide HR1) gA (by omega) _ xs[k].1 xs[k].2) ?_)
            all_goals
              go_wp2_with fail
              go_meet
              case rel => exact ⟨rfl, by rw [unhide HT, ← List.cons_append]; exact (unhide HY).1, (unhide HY).2⟩
          case rest =>
            obtain ⟨rfl, hr1, hfr⟩ := hcut
            have hr2 := (unhide HR2).keep hfr gB (by simp; omega)
            have hbc : Below w1.heap.size w1 wc := (unhide HBR).trans (hfr.below (unhide HBR).size (by have := unhide HS; simp; omega))
            have d0 := cell_grown hbc (unhide HC).1
            have d1 := cell_grown hbc (unhide HC).2
            have gA' : A < wc.heap.size := Nat.lt_of_lt_of_le gA hfr.size
            have gB' : B < wc.heap.size := Nat.lt_of_lt_of_le gB hfr.size
            obtain ⟨y1, y2⟩ := hr2.afterd gB' (unhide HLK2) (by omega) (.cells #[.int .u64 xs[k].1, .int .u64 xs[k].2] 35) xs[k]
            have HY' := hide (And.intro y1 y2)
            have HR2' := hide hr2
            have HRA := hide hr1
            have HBC := hide hbc
            clear hr1 hr2 hfr hbc y1 y2 HY HR1 HR2 gA gB
            go_upto_region 20 with (fail)
            go_region_law (refine step_append_room rfl (.tmp 86) (.tmp 98) 27 rfl 35 i0 2 Try.underlying27 (unhide HI0) (unhide HZ1) B 0 (k + 1) (xs.length + 1) (by simp [Act.eval, Act.put]) ⟨wc.heap.size, 0, none⟩ 1 1 [.int .u64 xs[k].1, .int .u64 xs[k].2] (by simp [Act.eval, Act.put]) rfl (news2d wc xs[k].1 xs[k].2 35) (one2 xs[k].1 xs[k].2) (by omega) (spare2d (unhide HR2') gB' (by omega) _ xs[k].1 xs[k].2) ?_)
            all_goals
              go_wp2_with fail
              obtain ⟨hr2, hfr⟩ := unhide HY'
              have hr1 := (unhide HRA).keep hfr gA' (by simp; omega)
              go_roundw
              case rel =>
                refine ⟨k + 1, by omega, by go_num, rfl, rfl, hr1, by rw [unhide HT, ← List.cons_append]; exact hr2, (unhide HBC).trans (hfr.below (unhide HBC).size (by have := unhide HS; simp; omega)), Nat.lt_of_lt_of_le gA' hfr.size, Nat.lt_of_lt_of_le gB' hfr.size⟩
              case measure => simp [intOf]; omega
        · rw [List.take_of_length_le (show xs.length ≤ k by omega)] at hr1 hr2
          obtain rfl : k = xs.length := by omega
          have hne : i1 ≠ i2 := by have := unhide HIE; simpa using this
          have hok1 : ∀ i3 : Int, HOk ((i3, f) :: xs) := fun i3 i hi => by
            cases i with
            | zero => simp; omega
            | succ i => have hi' : i < xs.length := by simpa using hi
                        have h1 := unhide HX0 i hi'
                        have h2 := unhide HLE' i hi'
                        simp only [List.getElem_cons_succ]
                        omega
          have h1 := zls_any (some ⟨A, 0, none⟩) (some ⟨B, 0, none⟩) (xs.length + 1) (xs.length + 1) ((i1, f) :: xs) ((i2, f) :: xs) high w3 (by simp; omega) (by simp; omega) hr1.hist hr2.hist (hok1 _) (hok1 _) hh0 hh1
          rw [fork_all i1 i2 f high xs hne, List.length_cons, List.length_cons] at h1
          have H2 := hide (fun (W : World) (hb : Below w3.heap.size w3 W) => zls_any (some ⟨B, 0, none⟩) (some ⟨A, 0, none⟩) (xs.length + 1) (xs.length + 1) ((i2, f) :: xs) ((i1, f) :: xs) high W (by simp; omega) (by simp; omega) (hr2.hist.grown hb) (hr1.hist.grown hb) (hok1 _) (hok1 _) hh0 hh1)
          have HBR := hide hbr
          clear hr1 hr2 hok1 hbr
          by_cases hhf : high < f
          all_goals
            first | rw [if_pos (show high < f by omega)] at h1 | rw [if_neg (show ¬ high < f by omega)] at h1
            go_wp2_with fail
            refine h1.mono ?_
            rintro e w4 ⟨rfl, hb4⟩
            have h2 := unhide H2 w4 hb4
            rw [fork_all i2 i1 f high xs hne.symm, List.length_cons, List.length_cons] at h2
            have HB4 := hide ((unhide HBR).trans (hb4.mono (unhide HBR).size))
            clear h1 hb4
            first | rw [if_pos (show high < f by omega)] at h2 | rw [if_neg (show ¬ high < f by omega)] at h2
            go_wp2_with fail
            refine h2.mono ?_
            rintro e w5 ⟨rfl, hb5⟩
            clear h2
            go_wp2_with fail
            go_ret
            exact ⟨rfl, (unhide HB4).trans (hb5.mono (unhide HB4).size)⟩
end Go.Proofs.Qxb6605272a
