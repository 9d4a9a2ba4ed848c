import Derived.Test.Qxb6604298aWp
/-! The law FnAddImageUsageWhole (4), where both are given. -/
namespace Go.Proofs.Qxb6604298a
open Go.RowKit
set_option maxHeartbeats 8000000
set_option maxRecDepth 100000

/-- What the usage gained. -/
structure Gain (u v : Im) (m : Mt) : Prop where
  t1 : (wrap64 (v.tot - u.tot) == m.s) = true
  t2 : (wrap64 (v.inp - u.inp) == m.p) = true
  t3 : (wrap64 (v.ii - u.ii) == wrap64 (isum m.pd)) = true
  t4 : (wrap64 (wrap64 (v.it - u.it) + wrap64 (v.ii - u.ii)) == m.p) = true
  t5 : (wrap64 (v.out - u.out) == wrap64 (m.c + m.t)) = true
  t6 : (wrap64 (v.oi - u.oi) == wrap64 (isum m.cd)) = true
  t7 : (wrap64 (wrap64 (v.ot - u.ot) + wrap64 (v.oi - u.oi)) == wrap64 (m.c + m.t)) = true

theorem gain (u : Im) (m : Mt) (hf : MtFit m) : Gain u (u.add m) m := by
  obtain ⟨h1, h2, h3, h4⟩ := hf
  unfold Fit at h1 h2 h3 h4
  constructor <;> rw [beq_iff_eq] <;> simp only [Im.add] <;> unfold wrap64 <;> omega

theorem whole_fm (b off d o mb mo : Nat) (u : Im) (m : Mt) (w : World) (hu : UAt w b off u) (h5 : w.cell? ⟨b, off + 5, none⟩ = some (.pointer (some ⟨d, o, none⟩)))
    (h6 : w.cell? ⟨d, o, none⟩ = some (.int .i64 u.ot)) (h7 : w.cell? ⟨d, o + 1, none⟩ = some (.int .i64 u.oi)) (hm : MtAt w mb mo m) (hf : MtFit m) :
    Calls Try.prog 4 #[.pointer (some ⟨b, off, none⟩), .pointer (some ⟨mb, mo, none⟩)] w fun e w' => e = .returned (.bool true) ∧ Below w.heap.size w w' := by
  have h14 := zb14_some (.pointer (some ⟨b, off, none⟩)) mb mo m w hm
  have HG := hide (gain u m hf)
  have HM := hide hm
  have HU := hide (And.intro hu (And.intro h5 (And.intro h6 h7)))
  obtain ⟨i55, hi55, _⟩ := size_parts Try.size55
  obtain ⟨i53, hi53, _⟩ := size_parts Try.size53
  have hpe := fun (W : World) (x : Addr) => neq_ptr_same (P := Try.prog) (w := W) (tp := 29) x Try.underlying29 hi55
  have hpe' := fun (W : World) (x : Addr) => neq_ptr_same (P := Try.prog) (w := W) (tp := 51) x Try.underlying51 hi53
  clear hm hu h6 h7 hi55 hi53
  go_enter Try.func4, Try.ntmps4
  go_wp2_with fail
  refine h14.mono ?_
  rintro e w1 ⟨⟨r, rfl, hr⟩, hw1⟩
  subst hw1
  clear h14
  cases r
  · go_wp2_with fail
    go_ret
    exact ⟨rfl, Below.refl _ _⟩
  have hlen := hr rfl
  have hok : MtOk m := ⟨hf.p, hf.c, hf.t, hf.s, by omega, by omega⟩
  have HOK := hide hok
  have h8 := mbytes_any mb mo m w1 hok (unhide HM)
  have h15 := to_full b off d o u w1 (unhide HU).1 (unhide HU).2.1 (unhide HU).2.2.1 (unhide HU).2.2.2
  clear hr hlen hf hok
  go_wp2_with fail
  refine h8.mono ?_
  rintro e w2 ⟨⟨n, rfl⟩, hw2⟩
  subst hw2
  clear h8
  go_wp2_with fail
  · go_ret
    exact ⟨rfl, Below.refl _ _⟩
  refine h15.mono ?_
  rintro e w3 ⟨b', d', rfl, hb', hd', hb3, hi3⟩
  have h9 := tg_any mb mo m w3 (unhide HOK) ((unhide HM).grown hb3)
  have HB3 := hide hb3
  have HI3 := hide hi3
  have lb' := lt_of_cell hi3.tot
  have ld' := lt_of_cell hi3.ot
  clear h15 hb3 hi3 h5
  go_wp2_with fail
  refine h9.mono ?_
  rintro e w4 ⟨g, pa', pc', ca', cc', rfl, hb4, hg1, hg2, hmt, na, nc, fa, fc⟩
  have hi4 := (unhide HI3).grown hb4
  have e5 := hi4.od
  have h11 := zai_some b' d' u g ⟨m.p, m.c, m.t, m.s, pa', pc', m.pd, ca', cc', m.cd⟩ w4 ⟨(unhide HOK).p, (unhide HOK).c, (unhide HOK).t, (unhide HOK).s, (unhide HOK).pl, (unhide HOK).cl⟩ hi4 hmt
  have HB4 := hide ((unhide HB3).trans (hb4.mono (unhide HB3).size))
  have HMT := hide hmt
  have HN := hide (And.intro na nc)
  have HK5 := hide (fun (W : World) (hfr : Fr [b', d'] w4 W) => MtAt.keep (m := ⟨m.p, m.c, m.t, m.s, pa', pc', m.pd, ca', cc', m.cd⟩) hfr (show g ∉ [b', d'] by simp; omega) hg2 (fun x hx => ⟨by have := fa x hx; simp; omega, (fa x hx).2⟩) (fun x hx => ⟨by have := fc x hx; simp; omega, (fc x hx).2⟩) hmt)
  clear h9 hb4 hi4 hmt na nc fa fc HI3
  go_wp2_with fail
  refine h11.mono ?_
  rintro e w5 ⟨rfl, hi5, hfr5⟩
  have hb5 : Below w2.heap.size w2 w5 := (unhide HB4).trans (hfr5.below (unhide HB4).size (by simp; omega))
  have hi5' : ImAt w5 b' d' (u.add m) := hi5
  have HIM := hide hi5'
  have HB5 := hide hb5
  have HMM := hide ((unhide HM).grown hb5)
  have HM5 := hide (unhide HK5 w5 hfr5)
  obtain ⟨x1, x2, x3, x4⟩ := unhide HU
  obtain ⟨y0, y1, y2, y3, y4⟩ := x1.grown hb5
  have y5 := cell_grown hb5 x2
  have y6 := cell_grown hb5 x3
  have y7 := cell_grown hb5 x4
  have e5 := hi5'.od
  clear h11 hi5 hi5' hb5 hfr5 HK5 x1 x2 x3 x4 HMT HB4
  go_upto_if 83 with (fail)
  go_cut [9, 10, 11, 12, 13, 14, 15] (fun s9 s10 s11 s12 s13 s14 s15 wc => s9 = .int .i64 u.tot ∧ s10 = .int .i64 u.inp ∧ s11 = .int .i64 u.out ∧ s12 = .int .i64 u.it ∧ s13 = .int .i64 u.ii ∧ s14 = .int .i64 u.ot ∧ s15 = .int .i64 u.oi ∧ wc = w5)
  case first =>
    go_wp2_with fail
    go_meet
    case rel => exact ⟨rfl, rfl, rfl, rfl, rfl, rfl, rfl, rfl⟩
  case rest =>
    obtain ⟨rfl, rfl, rfl, rfl, rfl, rfl, rfl, hwc⟩ := hcut
    subst hwc
    clear y0 y1 y2 y3 y4 y5 y6 y7 e5 hpe hpe'
    have h17 := sm_any g mb mo m ⟨m.p, m.c, m.t, m.s, pa', pc', m.pd, ca', cc', m.cd⟩ wc (unhide HOK) (unhide HMM) (unhide HM5) rfl rfl rfl rfl rfl rfl (unhide HN).1 (unhide HN).2
    go_wp2_with fail
    refine h17.mono ?_
    rintro e w6 ⟨rfl, k, hk⟩
    have hbk : Below wc.heap.size wc w6 := by rw [hk]; exact below_dW _ _
    have HB6 := hide ((unhide HB5).trans (hbk.mono (unhide HB5).size))
    have hmm := (unhide HMM).grown hbk
    obtain ⟨e0, e1, e2, e3, e4, e5, e6, e7, _, _, _, _, _⟩ := (unhide HIM).grown hbk
    clear hk h17 hbk HM5 HMM HIM
    have HIC := hide (fun n => img_any m.ca m.cc m.cd (w6.drewN n) (by have := (unhide HOK).cl; omega) (det_drewN n hmm.cd))
    have HIP := hide (fun n => img_any m.pa m.pc m.pd (w6.drewN n) (by have := (unhide HOK).pl; omega) (det_drewN n hmm.pd))
    obtain ⟨m0, m1, m2, m3, m4, m5, _, _⟩ := hmm
    obtain ⟨t1, t2, t3, t4, t5, t6, t7⟩ := unhide HG
    generalize u.add m = v at *
    generalize wrap64 (isum m.pd) = ip at *
    generalize wrap64 (isum m.cd) = ic at *
    generalize m.pd.length = np at *
    generalize m.cd.length = nc at *
    go_wp2_with fail
    go_quiet (fail)
    go_wp2_with fail
    refine (unhide HIP _).mono ?_
    rintro e w7 ⟨rfl, hw7⟩
    subst hw7
    go_wp2_with fail
    refine (unhide HIC _).mono ?_
    rintro e w8 ⟨rfl, hw8⟩
    subst hw8
    go_wp2_with fail
    go_quiet (fail)
    go_wp2_with fail
    go_ret
    exact ⟨rfl, by rw [World.drewN_drewN]; exact (unhide HB6).trans ((below_dW _ _).mono (unhide HB6).size)⟩
end Go.Proofs.Qxb6604298a
