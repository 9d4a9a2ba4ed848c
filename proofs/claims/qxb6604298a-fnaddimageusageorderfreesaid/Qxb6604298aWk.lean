import Derived.Test.Qxb6604298aWi
import Derived.Test.Qxb6604298aWj
/-! The walk of the law FnAddImageUsageOrderFree (6). -/
namespace Go.Proofs.Qxb6604298a
open Go.RowKit
set_option maxHeartbeats 4000000
set_option maxRecDepth 100000

theorem free_none (a : Option Addr) (cap : Nat) (w : World) :
    Calls Try.prog 6 #[.slice a 0 cap] w fun e w' => e = .returned (.bool true) ∧ Below w.heap.size w w' := by
  have h21 := zb21_none a cap w
  have h20 := lbytes_none a cap w
  go_enter Try.func6, Try.ntmps6
  go_wp2_with fail
  refine h21.mono ?_
  rintro e w1 ⟨⟨r, rfl, hr⟩, hw1⟩
  subst hw1
  clear hr h21
  cases r
  · go_wp2_with fail
    go_ret
    exact ⟨rfl, Below.refl _ _⟩
  go_wp2_with fail
  refine h20.mono ?_
  rintro e w2 ⟨⟨n, rfl⟩, hw2⟩
  subst hw2
  clear h20
  go_wp2_with fail
  · go_ret
    exact ⟨rfl, Below.refl _ _⟩
  refine wp_loop_rounds 1 ?_
  rw [rounds_succ]
  go_wp2_with fail
  refine wp_loop_rounds 1 ?_
  rw [rounds_succ]
  go_wp2_with fail
  go_ret
  exact ⟨rfl, Below.refl _ _⟩

theorem free_some (b off cap : Nat) (ms : List Mt) (w : World) (hpos : 0 < ms.length) (hl : ms.length ≤ 9223372036854775807)
    (hm : ∀ i (h : i < ms.length), MtAt w b (off + i * 6) ms[i] ∧ MtFit ms[i]) :
    Calls Try.prog 6 #[.slice (some ⟨b, off, none⟩) ms.length cap] w fun e w' => e = .returned (.bool true) ∧ Below w.heap.size w w' := by
  have h21 := zb21_some b off cap ms w (fun i h => (hm i h).1)
  have HM1 := hide hm
  clear hm
  go_enter Try.func6, Try.ntmps6
  go_wp2_with fail
  refine h21.mono ?_
  rintro e w1 ⟨⟨r, rfl, hr⟩, hw1⟩
  subst hw1
  clear h21
  cases r
  · go_wp2_with fail
    go_ret
    exact ⟨rfl, Below.refl _ _⟩
  have hlens := hr rfl
  have HLENS := hide hlens
  clear hr
  have hm : ∀ i (h : i < ms.length), MtAt w1 b (off + i * 6) ms[i] ∧ MtOk ms[i] := fun i h =>
    ⟨(unhide HM1 i h).1, ⟨(unhide HM1 i h).2.p, (unhide HM1 i h).2.c, (unhide HM1 i h).2.t, (unhide HM1 i h).2.s, by have := lens_get ms i h; omega, by have := lens_get ms i h; omega⟩⟩
  have h20 := lbytes_some b off cap ms w1 hl hm
  have HM := hide hm
  clear hm hlens HM1
  go_wp2_with fail
  refine h20.mono ?_
  rintro e w2 ⟨⟨n, rfl⟩, hw2⟩
  subst hw2
  clear h20
  go_wp2_with fail
  · go_ret
    exact ⟨rfl, Below.refl _ _⟩
  -- forward
  go_loopw [3, 4] (fun acc i wr => ∃ k : Nat, k ≤ ms.length ∧ i = .int .i64 k ∧ Below w2.heap.size w2 wr ∧ Acc w2 wr acc (SumIs (t5 (ms.take k))) ∧ (0 < k → acc ≠ .pointer none)) (fun _ i _ => ms.length - (intOf i).toNat)
  case atStart => exact ⟨0, Nat.zero_le _, rfl, Below.refl _ _, Or.inl ⟨rfl, SumIs.zero⟩, fun h => absurd h (by omega)⟩
  case round =>
    obtain ⟨k, hk, rfl, hbr, hacc, hk0⟩ := hrel
    by_cases hlt : k < ms.length
    · have hat := ((unhide HM) k hlt).1.grown hbr
      have hok := ((unhide HM) k hlt).2
      have HT := hide (t5_snoc ms k hlt)
      have HACC := hide hacc
      have h9 := tg_any b (off + k * 6) ms[k] wr hok hat
      clear hacc hk0 hat
      obtain ⟨m, hmk⟩ : ∃ m, m = ms[k] := ⟨_, rfl⟩
      rw [← hmk] at h9 hok HT
      clear hmk
      go_wp2_with fail
      refine h9.mono ?_
      rintro e w3 ⟨g, pa', pc', ca', cc', rfl, hb3, hg1, hg2, hmt, _, _, _, _⟩
      clear h9
      have hsz : w2.heap.size ≤ w3.heap.size := Nat.le_trans hbr.size hb3.size
      have h11 := zai_acc w2 u3 (SumIs (t5 (ms.take k))) g ⟨m.p, m.c, m.t, m.s, pa', pc', m.pd, ca', cc', m.cd⟩ w3 ⟨hok.p, hok.c, hok.t, hok.s, hok.pl, hok.cl⟩ hmt hsz ((unhide HACC).grown hb3)
      have HB3 := hide (hbr.trans (hb3.mono hbr.size))
      clear hmt hg1 hg2 HACC hb3 hbr
      go_wp2_with fail
      refine h11.mono ?_
      rintro e w4 ⟨b', d', u, rfl, hu, hsp, hb', hd', hb4⟩
      clear h11
      have HU := hide hu
      have HSP := hide (hsp.add m)
      have HBW := hide ((unhide HB3).trans hb4)
      clear hu hsp hb4 HB3
      go_wp2_with fail
      go_roundw
      case rel =>
        refine ⟨k + 1, by omega, by go_num, unhide HBW, Or.inr ⟨b', d', _, rfl, unhide HU, hb', hd', ?_⟩, fun _ h => by simp at h⟩
        rw [unhide HT]; exact unhide HSP
      case measure => simp [intOf]; omega
    · have hkl : ms.take k = ms := List.take_of_length_le (by omega)
      rw [hkl] at hacc
      rcases hacc with ⟨h, _⟩ | ⟨bf, df, uf, hv, hIf, _, _, hSf⟩
      · exact absurd h (hk0 (by omega))
      subst hv
      obtain ⟨wf, rfl⟩ : ∃ wo : World, wo = wr := ⟨_, rfl⟩
      have HBF := hide hbr
      have HIF := hide hIf
      have HSF := hide hSf
      have hbf := lt_of_cell hIf.tot
      clear hbr hIf hSf hk0 hkl
      go_wp2_with fail
      -- backward
      go_loopw [5, 6] (fun acc i wr => ∃ (k : Nat) (z : Int), k ≤ ms.length ∧ i = .int .i64 z ∧ z = (k : Int) - 1 ∧ Below wf.heap.size wf wr ∧ Acc wf wr acc (SumIs (t5 (ms.drop k))) ∧ (k < ms.length → acc ≠ .pointer none)) (fun _ i _ => (intOf i + 1).toNat)
      case atStart => exact ⟨ms.length, _, Nat.le_refl _, rfl, rfl, Below.refl _ _, Or.inl ⟨rfl, by rw [List.drop_length]; exact SumIs.zero⟩, fun h => absurd h (by omega)⟩
      case round =>
        obtain ⟨k', z, hk', rfl, hz, hbr, hacc, hk0⟩ := hrel
        by_cases hpk : 0 < k'
        · obtain ⟨j, rfl⟩ : ∃ j, k' = j + 1 := ⟨k' - 1, by omega⟩
          obtain rfl : z = (j : Int) := by omega
          have hjt : j < ms.length := by omega
          have hat := ((unhide HM) j hjt).1.grown ((unhide HBF).trans (hbr.mono (unhide HBF).size))
          have hok := ((unhide HM) j hjt).2
          have HT := hide (t5_drop ms j hjt)
          have HACC := hide hacc
          have h9 := tg_any b (off + j * 6) ms[j] wr hok hat
          clear hacc hk0 hat hz
          obtain ⟨m, hmk⟩ : ∃ m, m = ms[j] := ⟨_, rfl⟩
          rw [← hmk] at h9 hok HT
          clear hmk
          go_wp2_with fail
          refine h9.mono ?_
          rintro e w3 ⟨g, pa', pc', ca', cc', rfl, hb3, hg1, hg2, hmt, _, _, _, _⟩
          clear h9
          have hsz : wf.heap.size ≤ w3.heap.size := Nat.le_trans hbr.size hb3.size
          have h11 := zai_acc wf u5 (SumIs (t5 (ms.drop (j + 1)))) g ⟨m.p, m.c, m.t, m.s, pa', pc', m.pd, ca', cc', m.cd⟩ w3 ⟨hok.p, hok.c, hok.t, hok.s, hok.pl, hok.cl⟩ hmt hsz ((unhide HACC).grown hb3)
          have HB3 := hide (hbr.trans (hb3.mono hbr.size))
          clear hmt hg1 hg2 HACC hb3 hbr
          go_wp2_with fail
          refine h11.mono ?_
          rintro e w4 ⟨b', d', u, rfl, hu, hsp, hb', hd', hb4⟩
          clear h11
          have HU := hide hu
          have HSP := hide (hsp.add m)
          have HBW := hide ((unhide HB3).trans hb4)
          clear hu hsp hb4 HB3
          go_wp2_with fail
          go_roundw
          case rel =>
            refine ⟨j, _, by omega, rfl, rfl, unhide HBW, Or.inr ⟨b', d', _, rfl, unhide HU, hb', hd', ?_⟩, fun _ h => by simp at h⟩
            rw [unhide HT]; exact unhide HSP
          case measure => simp [intOf]
        · obtain rfl : k' = 0 := by omega
          obtain rfl : z = -1 := by omega
          rcases hacc with ⟨h, _⟩ | ⟨bb, db, ub, hv, hIb, hb1, _, hSb⟩
          · exact absurd h (hk0 (by omega))
          subst hv
          rw [List.drop_zero] at hSb
          obtain ⟨wb, rfl⟩ : ∃ wo : World, wo = wr := ⟨_, rfl⟩
          have hu : ub = uf := hSb.eq (unhide HSF)
          subst hu
          have h18 := eq_yes bf df bb db ub wb ((unhide HIF).grown hbr) hIb
          have hne : bf ≠ bb := by omega
          have hne' : bb ≠ bf := by omega
          have hln : ((ms.length : Int) == 0) = false := beq_eq_false_iff_ne.2 (by omega)
          have HBB := hide hbr
          have HIB := hide hIb
          clear hbr hIb hk0 hSb hz
          go_wp2_with fail
          refine h18.mono ?_
          rintro e we ⟨rfl, hbe⟩
          clear h18
          have HBE := hide (((unhide HBF).trans ((unhide HBB).mono (unhide HBF).size)).trans (hbe.mono (Nat.le_trans (unhide HBF).size (unhide HBB).size)))
          have HIE := hide (((unhide HIF).grown (unhide HBB)).grown hbe)
          have HOLD := hide (fun (i : Nat) (h : i < ms.length) => ((unhide HM) i h).1.grown (unhide HBE))
          have HL2 := hide (fun i (h : i < ms.length) => lens_get ms i h)
          have hlens := unhide HLENS
          obtain ⟨i55, hi55, hz55⟩ := size_parts Try.size55
          have hpe := eql_ptr_other (P := Try.prog) (w := we) (tp := 29) (a := ⟨bf, 0, none⟩) (b := ⟨bb, 0, none⟩) Try.underlying29 hi55 (by omega) (fun h => hne (congrArg Addr.block h)) (unhide HIE).wb (((unhide HIB).grown hbe).wb)
          clear HBB HIB HIF hbe hi55 hz55
          go_wp2_with fail
          clear hpe
          -- the lengths
          go_loop [7, 8, 9] (fun np nc i => ∃ k : Nat, k ≤ ms.length ∧ i = .int .i64 k ∧ np = .int .i64 ((catP (ms.take k)).length : Int) ∧ nc = .int .i64 ((catC (ms.take k)).length : Int)) (fun _ _ i => ms.length - (intOf i).toNat)
          case atStart => exact ⟨0, Nat.zero_le _, rfl, by simp [catP], by simp [catC]⟩
          case round =>
            obtain ⟨k3, hk3, rfl, rfl, rfl⟩ := hrel
            by_cases hlt : k3 < ms.length
            · have hat := unhide HOLD k3 hlt
              have c4 := hat.pv
              have c5 := hat.cv
              have HP := hide (catP_snoc ms k3 hlt)
              have HC := hide (catC_snoc ms k3 hlt)
              have l1 := catP_le ms (k3 + 1)
              have l2 := catC_le ms (k3 + 1)
              have l3 := cat_lens ms
              rw [catP_snoc ms k3 hlt, List.length_append] at l1
              rw [catC_snoc ms k3 hlt, List.length_append] at l2
              clear hat
              generalize hxp : (catP (ms.take k3)).length = xp at *
              generalize hxc : (catC (ms.take k3)).length = xc at *
              generalize hyp : ms[k3].pd.length = yp at *
              generalize hyc : ms[k3].cd.length = yc at *
              have HX := hide (And.intro hxp (And.intro hxc (And.intro hyp hyc)))
              clear hxp hxc hyp hyc
              have b1 : xp + yp ≤ 1048576 := by omega
              have b2 : xc + yc ≤ 1048576 := by omega
              clear l1 l2 l3
              go_wp2_with fail
              obtain ⟨x1, x2, x3, x4⟩ := unhide HX
              go_round
              case rel =>
                refine ⟨k3 + 1, by omega, by go_num, ?_, ?_⟩
                · rw [unhide HP, List.length_append, x1, x3]; go_num
                · rw [unhide HC, List.length_append, x2, x4]; go_num
              case measure => simp [intOf]; omega
            · have hkl : ms.take k3 = ms := List.take_of_length_le (by omega)
              rw [hkl]
              have l3 := cat_lens ms
              obtain ⟨NP, hNP⟩ : ∃ n, n = (catP ms).length := ⟨_, rfl⟩
              obtain ⟨NC, hNC⟩ : ∃ n, n = (catC ms).length := ⟨_, rfl⟩
              rw [← hNP, ← hNC] at l3
              have b1 : NP ≤ 1048576 := by omega
              have b2 : NC ≤ 1048576 := by omega
              rw [← hNP, ← hNC]
              have HN := hide (And.intro hNP hNC)
              clear hNP hNC l3 hlens hkl
              obtain ⟨i0, hi, hz0, hz1, hz2⟩ := info_parts Try.info69
              have hmk := fun (W : World) => run_make (P := Try.prog) W 62 69 i0 _ Try.underlying62 hi hz0 .i64 .i64 (NP : Int) (NP : Int) (by omega) (by omega) (by rw [hz2]; omega) (by omega)
              have hmk2 := fun (W : World) => run_make (P := Try.prog) W 62 69 i0 _ Try.underlying62 hi hz0 .i64 .i64 (NC : Int) (NC : Int) (by omega) (by omega) (by rw [hz2]; omega) (by omega)
              simp only [hz1, Int.toNat_natCast] at hmk hmk2
              clear hi hz0 hz1 hz2
              go_wp2_with fail
              clear hmk hmk2
              obtain ⟨q1, q2, q3, q4⟩ := start3 we NP NC
              have HQ4 := hide q4
              generalize ((we.alloc (.cells (madeCells #[.string ⟨#[]⟩, .int .i64 0] (NP * 2)) 69)).alloc (.cells (madeCells #[.string ⟨#[]⟩, .int .i64 0] (NC * 2)) 69)).alloc (.cells #[.int .i64 0, .int .i64 0, .int .i64 0, .int .i64 0, .slice none 0 0, .slice none 0 0] 64) = W0 at q1 q2 q3 q4 HQ4 ⊢
              generalize hP : we.heap.size = P at q1 q2 q3 ⊢
              generalize hC : P + 1 = C at q1 q2 q3 ⊢
              generalize hM : C + 1 = M at q1 q2 q3 ⊢
              have pc : P ≠ C := by omega
              have pm : P ≠ M := by omega
              have cm : C ≠ M := by omega
              have cp : C ≠ P := by omega
              have mp : M ≠ P := by omega
              have mc : M ≠ C := by omega
              have HPCM := hide (And.intro hP (And.intro hC hM))
              have HQ1 := hide q1
              have HQ2 := hide q2
              have HQ3 := hide q3
              clear hP hC hM q1 q2 q3 q4
              -- the merge
              go_loopw [12, 13, 15] (fun kp kc i wr => ∃ k : Nat, k ≤ ms.length ∧ i = .int .i64 k ∧ kp = .int .i64 ((catP (ms.take k)).length : Int) ∧ kc = .int .i64 ((catC (ms.take k)).length : Int) ∧ Below we.heap.size we wr ∧
                  Row wr P NP (catP (ms.take k)) ∧ Row wr C NC (catC (ms.take k)) ∧ Mg wr M (wrap64 (sP (ms.take k))) (wrap64 (sC (ms.take k))) (wrap64 (sT (ms.take k))) (wrap64 (sS (ms.take k)))) (fun _ _ i _ => ms.length - (intOf i).toNat)
              case atStart =>
                exact ⟨0, Nat.zero_le _, rfl, by simp [catP], by simp [catC], unhide HQ4, by simpa [catP] using unhide HQ1, by simpa [catC] using unhide HQ2, by simpa [sP, sC, sT, sS, wrap64_zero] using unhide HQ3⟩
              case round =>
                clear HQ1 HQ2 HQ3 HQ4
                obtain ⟨k4, hk4, rfl, rfl, rfl, hbr, hrp, hrc, hmg⟩ := hrel
                obtain ⟨wr4, rfl⟩ : ∃ wo : World, wo = wr := ⟨_, rfl⟩
                by_cases hlt : k4 < ms.length
                · have HSNOC := hide (And.intro (catP_snoc ms k4 hlt) (And.intro (catC_snoc ms k4 hlt) (And.intro (sP_snoc ms k4 hlt) (And.intro (sC_snoc ms k4 hlt) (And.intro (sT_snoc ms k4 hlt) (sS_snoc ms k4 hlt))))))
                  have l1 := catP_le ms (k4 + 1)
                  have l2 := catC_le ms (k4 + 1)
                  rw [catP_snoc ms k4 hlt, List.length_append, ← (unhide HN).1] at l1
                  rw [catC_snoc ms k4 hlt, List.length_append, ← (unhide HN).2] at l2
                  have hold := unhide HOLD k4 hlt
                  have hat := hold.grown hbr
                  obtain ⟨g0, g1, g2, g3, _, _, _, _⟩ := hat
                  obtain ⟨e0, e1, e2, e3, e4, e5, lo⟩ := hmg
                  have HMG := hide (Mg.mk e0 e1 e2 e3 e4 e5 lo)
                  have HRP := hide hrp
                  have HRC := hide hrc
                  have HBR := hide hbr
                  have HAT := hide hold
                  clear hrp hrc hbr e4 e5 hold
                  generalize hX : catP (ms.take k4) = X at *
                  generalize hY : catC (ms.take k4) = Y at *
                  clear hX hY
                  generalize ms[k4] = m at *
                  go_wp2_with fail
                  go_region
                  go_wp2_with fail
                  go_region
                  go_wp2_with fail
                  go_region
                  go_wp2_with fail
                  go_region
                  go_wp2_with fail
                  obtain ⟨r1, r2⟩ := (unhide HMG).four (wrap64 (wrap64 (sP (ms.take k4)) + m.p)) (wrap64 (wrap64 (sC (ms.take k4)) + m.c)) (wrap64 (wrap64 (sT (ms.take k4)) + m.t)) (wrap64 (wrap64 (sS (ms.take k4)) + m.s))
                  generalize ((((wr4.setCell ⟨M, 0, none⟩ (.int .i64 (wrap64 (wrap64 (sP (ms.take k4)) + m.p)))).setCell ⟨M, 1, none⟩ (.int .i64 (wrap64 (wrap64 (sC (ms.take k4)) + m.c)))).setCell ⟨M, 2, none⟩ (.int .i64 (wrap64 (wrap64 (sT (ms.take k4)) + m.t)))).setCell ⟨M, 3, none⟩ (.int .i64 (wrap64 (wrap64 (sS (ms.take k4)) + m.s)))).drew.drew.drew.drew = W4 at r1 r2 ⊢
                  obtain ⟨hP, hC, hM⟩ := unhide HPCM
                  have gP : P < wr4.heap.size := by have := lt_of_cell e0; omega
                  have gC : C < wr4.heap.size := by have := lt_of_cell e0; omega
                  have sz4 := r2.size
                  have HB4 := hide ((unhide HBR).trans (r2.below (unhide HBR).size (by simp; omega)))
                  have HRP4 := hide ((unhide HRP).keep r2 gP (by simp; omega))
                  have HRC4 := hide ((unhide HRC).keep r2 gC (by simp; omega))
                  have HMG4 := hide r1
                  have gP' : P < W4.heap.size := by omega
                  have gC' : C < W4.heap.size := by omega
                  have hPs : we.heap.size ≤ P := by omega
                  have hCs : we.heap.size ≤ C := by omega
                  clear r1 r2 hP hC hM HRP HRC HMG HBR e0 e1 e2 e3 lo g0 g1 g2 g3 gP gC sz4
                  generalize hpd : m.pd = pd at *
                  generalize hcd : m.cd = cd at *
                  generalize hpa : m.pa = pa at *
                  generalize hca : m.ca = ca at *
                  have HPD := hide (show Det we pa pd by rw [← hpa, ← hpd]; exact (unhide HAT).pd)
                  have HCD := hide (show Det we ca cd by rw [← hca, ← hcd]; exact (unhide HAT).cd)
                  have HC4 := hide (show we.cell? ⟨b, off + k4 * 6 + 4, none⟩ = some (.slice pa pd.length m.pc) by rw [← hpa, ← hpd]; exact (unhide HAT).pv)
                  have HC5 := hide (show we.cell? ⟨b, off + k4 * 6 + 5, none⟩ = some (.slice ca cd.length m.cc) by rw [← hca, ← hcd]; exact (unhide HAT).cv)
                  clear HAT hpd hcd hpa hca
                  go_loopw [12, 16] (fun kp i wr => ∃ (j q : Nat), j ≤ pd.length ∧ i = .int .i64 j ∧ kp = .int .i64 q ∧ q = X.length + j ∧ Row wr P NP (X ++ pd.take j) ∧ Fr [P] W4 wr) (fun _ i _ => pd.length - (intOf i).toNat)
                  case atStart => exact ⟨0, X.length, Nat.zero_le _, rfl, rfl, rfl, by simpa using unhide HRP4, Fr.refl _ _⟩
                  case round =>
                    obtain ⟨j, q, hj, rfl, rfl, hq, hrow, hfr⟩ := hrel
                    have hbw : Below we.heap.size we wr := (unhide HB4).trans (hfr.below (unhide HB4).size (by simp; omega))
                    have HQ := hide hq
                    have hqn : q ≤ NP := by omega
                    have HROW := hide hrow
                    have HFR := hide hfr
                    have c4 := cell_grown hbw (unhide HC4)
                    have c5 := cell_grown hbw (unhide HC5)
                    by_cases hjt : j < pd.length
                    · rcases unhide HPD with h0 | ⟨b', o', hpa, hc⟩
                      · rw [h0] at hjt; simp at hjt
                      have d0 := cell_grown hbw (hc j hjt).1
                      have d1 := cell_grown hbw (hc j hjt).2
                      have hqn' : q < NP := by omega
                      obtain ⟨v0, hv0⟩ := hrow.there (q * 2) (by omega)
                      obtain ⟨v1, hv1⟩ := hrow.there (q * 2 + 1) (by omega)
                      have hf0 := hrow.loose (q * 2)
                      have hf1 := hrow.loose (q * 2 + 1)
                      clear hc hq hrow hfr hbw c5
                      subst hpa
                      go_wp2_with fail
                      go_region
                      go_wp2_with fail
                      obtain ⟨s1, s2⟩ := (unhide HROW).push' (by rw [unhide HQ, List.length_append, List.length_take]; omega) hqn' pd[j]
                      go_roundw
                      case rel =>
                        refine ⟨j + 1, q + 1, by omega, by go_num, by go_num, by have := unhide HQ; omega, ?_, (unhide HFR).trans s2⟩
                        rw [List.take_succ_eq_append_getElem hjt, ← List.append_assoc]
                        exact s1
                      case measure => simp [intOf]; omega
                    · obtain rfl : j = pd.length := by omega
                      obtain ⟨w5, rfl⟩ : ∃ wo : World, wo = wr := ⟨_, rfl⟩
                      rw [List.take_length] at HROW
                      have HB5 := hide hbw
                      have HRC5 := hide ((unhide HRC4).keep hfr gC' (by simp; omega))
                      have HMG5 := hide ((unhide HMG4).keep hfr (by simp; omega))
                      have gP5 : P < w5.heap.size := Nat.lt_of_lt_of_le gP' hfr.size
                      have gC5 : C < w5.heap.size := Nat.lt_of_lt_of_le gC' hfr.size
                      clear hq hrow hfr hbw HRP4 HRC4 HMG4 HB4 HFR
                      go_wp2_with fail
                      go_loopw [13, 17] (fun kc i wr => ∃ (j q : Nat), j ≤ cd.length ∧ i = .int .i64 j ∧ kc = .int .i64 q ∧ q = Y.length + j ∧ Row wr C NC (Y ++ cd.take j) ∧ Fr [C] w5 wr) (fun _ i _ => cd.length - (intOf i).toNat)
                      case atStart => exact ⟨0, Y.length, Nat.zero_le _, rfl, rfl, rfl, by simpa using unhide HRC5, Fr.refl _ _⟩
                      case round =>
                        obtain ⟨j, q', hj, rfl, rfl, hq, hrow, hfr⟩ := hrel
                        have hbw : Below we.heap.size we wr := (unhide HB5).trans (hfr.below (unhide HB5).size (by simp; omega))
                        have HQ' := hide hq
                        have hqn : q' ≤ NC := by omega
                        have HROW' := hide hrow
                        have HFR := hide hfr
                        have c5 := cell_grown hbw (unhide HC5)
                        clear c4
                        by_cases hjt : j < cd.length
                        · rcases unhide HCD with h0 | ⟨b', o', hpa, hc⟩
                          · rw [h0] at hjt; simp at hjt
                          have d0 := cell_grown hbw (hc j hjt).1
                          have d1 := cell_grown hbw (hc j hjt).2
                          have hqn' : q' < NC := by omega
                          obtain ⟨v0, hv0⟩ := hrow.there (q' * 2) (by omega)
                          obtain ⟨v1, hv1⟩ := hrow.there (q' * 2 + 1) (by omega)
                          have hf0 := hrow.loose (q' * 2)
                          have hf1 := hrow.loose (q' * 2 + 1)
                          clear hc hq hrow hfr hbw
                          subst hpa
                          go_wp2_with fail
                          go_region
                          go_wp2_with fail
                          obtain ⟨s1, s2⟩ := (unhide HROW').push' (by rw [unhide HQ', List.length_append, List.length_take]; omega) hqn' cd[j]
                          go_roundw
                          case rel =>
                            refine ⟨j + 1, q' + 1, by omega, by go_num, by go_num, by have := unhide HQ'; omega, ?_, (unhide HFR).trans s2⟩
                            rw [List.take_succ_eq_append_getElem hjt, ← List.append_assoc]
                            exact s1
                          case measure => simp [intOf]; omega
                        · obtain rfl : j = cd.length := by omega
                          rw [List.take_length] at HROW'
                          have HB6 := hide hbw
                          have HRP6 := hide ((unhide HROW).keep hfr gP5 (by simp; omega))
                          have HMG6 := hide ((unhide HMG5).keep hfr (by simp; omega))
                          clear hq hrow hfr hbw
                          go_wp2_with fail
                          obtain ⟨n1, n2, n3, n4, n5, n6⟩ := unhide HSNOC
                          go_roundw
                          case rel =>
                            refine ⟨k4 + 1, by omega, by go_num, ?_, ?_, unhide HB6, ?_, ?_, ?_⟩
                            · rw [n1, List.length_append, unhide HQ]
                            · rw [n2, List.length_append, unhide HQ']
                            · rw [n1]; exact unhide HRP6
                            · rw [n2]; exact unhide HROW'
                            · rw [n3, n4, n5, n6, ← wrap64_wadd, ← wrap64_wadd (sC _), ← wrap64_wadd (sT _), ← wrap64_wadd (sS _)]; exact unhide HMG6
                          case measure => simp [intOf]; omega
                · have hkl : ms.take k4 = ms := List.take_of_length_le (by omega)
                  rw [hkl] at hrp hrc hmg
                  obtain ⟨nP, nC⟩ := unhide HN
                  obtain ⟨hP, hC, hM⟩ := unhide HPCM
                  have gM := lt_of_cell hmg.p
                  have hrp' : Row wr4 P (catP ms).length (catP ms) := nP ▸ hrp
                  have hrc' : Row wr4 C (catC ms).length (catC ms) := nC ▸ hrc
                  obtain ⟨z1, z2⟩ := hmg.done hrp' hrc' pm cm (by omega) (by omega)
                  rw [← nP, ← nC] at z1 z2
                  have e4 := hmg.pv
                  have e5 := hmg.cv
                  have lo := hmg.loose
                  have HZ1 := hide z1
                  have HZ2 := hide z2
                  have HBR := hide hbr
                  clear z1 z2 hrp hrc hmg hrp' hrc' hbr hkl nP nC
                  go_wp2_with fail
                  generalize ((wr4.setCell ⟨M, 4, none⟩ (.slice (some ⟨P, 0, none⟩) NP NP)).setCell ⟨M, 5, none⟩ (.slice (some ⟨C, 0, none⟩) NC NC)) = W7 at HZ1 HZ2 ⊢
                  have hb7 : Below we.heap.size we W7 := (unhide HBR).trans ((unhide HZ2).below (unhide HBR).size (by simp; omega))
                  have HB7 := hide hb7
                  have HI7 := hide ((unhide HIE).grown hb7)
                  have h11 := zai_none M _ W7 ⟨wrap_fit _, wrap_fit _, wrap_fit _, wrap_fit _, by have := (unhide HN).1; show (catP ms).length * 24 ≤ _; omega, by have := (unhide HN).2; show (catC ms).length * 24 ≤ _; omega⟩ (unhide HZ1)
                  clear hb7 HZ1 HZ2 HBR e4 e5 lo
                  refine h11.mono ?_
                  rintro e w8 ⟨b1, d1, rfl, k1, k2, k3, k4⟩
                  clear h11
                  have heq := (unhide HSF).eq (joined_is ms (some ⟨P, 0, none⟩) (some ⟨C, 0, none⟩) NP NC)
                  rw [← heq] at k3
                  have h18 := eq_yes bf df b1 d1 _ w8 ((unhide HI7).grown k4) k3
                  have HB8 := hide (((unhide HBE).trans ((unhide HB7).mono (unhide HBE).size)).trans (k4.mono (Nat.le_trans (unhide HBE).size (unhide HB7).size)))
                  clear heq k3 k4 HI7
                  go_wp2_with fail
                  refine h18.mono ?_
                  rintro e w9 ⟨rfl, k5⟩
                  clear h18
                  go_wp2_with fail
                  go_ret
                  exact ⟨rfl, (unhide HB8).trans (k5.mono (unhide HB8).size)⟩
end Go.Proofs.Qxb6604298a
