import Derived.Test.Qxb6604298aWq
import Derived.Test.Qxb6604298aWj
/-! The law FnAddImageUsageWhole (4), where the usage is nil and the metadata is given. -/
namespace Go.Proofs.Qxb6604298a
open Go.RowKit
set_option maxHeartbeats 8000000
set_option maxRecDepth 100000

theorem whole_nm (mb mo : Nat) (m : Mt) (w : World) (hm : MtAt w mb mo m) (hf : MtFit m) :
    Calls Try.prog 4 #[.pointer none, .pointer (some ⟨mb, mo, none⟩)] w fun e w' => e = .returned (.bool true) ∧ Below w.heap.size w w' := by
  have h14 := zb14_some (.pointer none) mb mo m w hm
  obtain ⟨u, hu⟩ : ∃ u, u = Im.zero := ⟨_, rfl⟩
  have HG := hide (gain u m hf)
  have HU0 := hide hu
  have HM := hide hm
  clear hm hu
  go_enter Try.func4, Try.ntmps4
  go_wp2_with fail
  refine h14.mono ?_
  rintro e w1 ⟨⟨r, rfl, hr⟩, hw1⟩
  subst hw1
  clear h14
  cases r
  · go_wp2_with fail
    go_ret
    exact ⟨rfl, Below.refl _ _⟩
  have hlen := hr rfl
  have hok : MtOk m := ⟨hf.p, hf.c, hf.t, hf.s, by omega, by omega⟩
  have HOK := hide hok
  have h8 := mbytes_any mb mo m w1 hok (unhide HM)
  have h15 := to_nil w1
  have h9 := tg_any mb mo m w1 hok (unhide HM)
  clear hr hlen hf hok
  go_wp2_with fail
  refine h8.mono ?_
  rintro e w2 ⟨⟨n, rfl⟩, hw2⟩
  subst hw2
  clear h8
  go_wp2_with fail
  · go_ret
    exact ⟨rfl, Below.refl _ _⟩
  refine h15.mono ?_
  rintro e w3 ⟨rfl, hw3⟩
  subst hw3
  clear h15
  go_wp2_with fail
  refine h9.mono ?_
  rintro e w4 ⟨g, pa', pc', ca', cc', rfl, hb4, hg1, hg2, hmt, na, nc, fa, fc⟩
  have h11 := zai_none g ⟨m.p, m.c, m.t, m.s, pa', pc', m.pd, ca', cc', m.cd⟩ w4 ⟨(unhide HOK).p, (unhide HOK).c, (unhide HOK).t, (unhide HOK).s, (unhide HOK).pl, (unhide HOK).cl⟩ hmt
  have HB4 := hide hb4
  have HMT := hide hmt
  have HN := hide (And.intro na nc)
  clear h9 hb4 hmt na nc fa fc hg1 hg2
  go_wp2_with fail
  refine h11.mono ?_
  rintro e w5 ⟨b1, d1, rfl, hb1, hd1, hi5, hb5⟩
  have h11' := zai_none g ⟨m.p, m.c, m.t, m.s, pa', pc', m.pd, ca', cc', m.cd⟩ w5 ⟨(unhide HOK).p, (unhide HOK).c, (unhide HOK).t, (unhide HOK).s, (unhide HOK).pl, (unhide HOK).cl⟩ ((unhide HMT).grown hb5)
  have HI5 := hide hi5
  have HB5 := hide ((unhide HB4).trans (hb5.mono (unhide HB4).size))
  have HMT5 := hide ((unhide HMT).grown hb5)
  have e5 := hi5.od
  have l1 := lt_of_cell hi5.tot
  have l2 := lt_of_cell hi5.ot
  clear h11 hi5 hb5 HMT HB4
  go_upto_if 83 with (fail)
  go_cut [9, 10, 11, 12, 13, 14, 15] (fun s9 s10 s11 s12 s13 s14 s15 wc => s9 = .int .i64 u.tot ∧ s10 = .int .i64 u.inp ∧ s11 = .int .i64 u.out ∧ s12 = .int .i64 u.it ∧ s13 = .int .i64 u.ii ∧ s14 = .int .i64 u.ot ∧ s15 = .int .i64 u.oi ∧ Below w5.heap.size w5 wc)
  case first =>
    go_wp2_with fail
    refine h11'.mono ?_
    rintro e w6 ⟨b2, d2, rfl, hb2, hd2, hi6, hb6⟩
    have hi5' := (unhide HI5).grown hb6
    have h18 := eq_yes b2 d2 b1 d1 _ w6 hi6 hi5'
    obtain ⟨i55, hi55, hz55⟩ := size_parts Try.size55
    obtain ⟨i53, hi53, hz53⟩ := size_parts Try.size53
    have q1 := fun n => eql_ptr_other (P := Try.prog) (w := w6.drewN n) (tp := 29) (a := ⟨b2, 0, none⟩) (b := ⟨b1, 0, none⟩) Try.underlying29 hi55 (by omega) (fun h => by have := congrArg Addr.block h; simp at this; omega) hi6.wb hi5'.wb
    have q2 := fun n => eql_ptr_other (P := Try.prog) (w := w6.drewN n) (tp := 51) (a := ⟨d2, 0, none⟩) (b := ⟨d1, 0, none⟩) Try.underlying51 hi53 (by omega) (fun h => by have := congrArg Addr.block h; simp at this; omega) hi6.wd hi5'.wd
    have f5 := hi6.od
    have f5' := hi5'.od
    have HB6 := hide hb6
    have HI6 := hide hi6
    have HI5' := hide hi5'
    clear h11' hb6 hi6 hi5' hi55 hi53 hz55 hz53 h18
    go_wp2_with fail
    go_quiet (fail)
    have HE := hide (fun n => eq_yes b2 d2 b1 d1 _ (w6.drewN n) ((unhide HI6).grown (below_dW w6 n)) ((unhide HI5').grown (below_dW w6 n)))
    clear q1 q2 f5 f5'
    go_wp2_with fail
    refine (unhide HE _).mono ?_
    rintro e w7 ⟨rfl, hb7⟩
    have hU := unhide HU0
    go_wp2_with fail
    go_meet
    case rel =>
      rw [hU]
      exact ⟨rfl, rfl, rfl, rfl, rfl, rfl, rfl, (unhide HB6).trans (((below_dW w6 _).trans hb7).mono (unhide HB6).size)⟩
  case rest =>
    obtain ⟨rfl, rfl, rfl, rfl, rfl, rfl, rfl, hbc⟩ := hcut
    have hU := unhide HU0
    have him : ImAt wc b1 d1 (u.add m) := by rw [hU]; exact (unhide HI5).grown hbc
    clear hU
    have HBC := hide ((unhide HB5).trans (hbc.mono (unhide HB5).size))
    have hmm := (unhide HM).grown (unhide HBC)
    have h17 := sm_any g mb mo m ⟨m.p, m.c, m.t, m.s, pa', pc', m.pd, ca', cc', m.cd⟩ wc (unhide HOK) hmm ((unhide HMT5).grown hbc) rfl rfl rfl rfl rfl rfl (unhide HN).1 (unhide HN).2
    have HIM := hide him
    have HMM := hide hmm
    clear e5 hbc him hmm h11' HI5 HMT5 HU0
    go_wp2_with fail
    refine h17.mono ?_
    rintro e w6 ⟨rfl, k, hk⟩
    have hbk : Below wc.heap.size wc w6 := by rw [hk]; exact below_dW _ _
    have HB6 := hide ((unhide HBC).trans (hbk.mono (unhide HBC).size))
    have hmm := (unhide HMM).grown hbk
    obtain ⟨e0, e1, e2, e3, e4, e5, e6, e7, _, _, _, _, _⟩ := (unhide HIM).grown hbk
    clear hk h17 hbk HMM HIM
    have HIC := hide (fun n => img_any m.ca m.cc m.cd (w6.drewN n) (by have := (unhide HOK).cl; omega) (det_drewN n hmm.cd))
    have HIP := hide (fun n => img_any m.pa m.pc m.pd (w6.drewN n) (by have := (unhide HOK).pl; omega) (det_drewN n hmm.pd))
    obtain ⟨m0, m1, m2, m3, m4, m5, _, _⟩ := hmm
    obtain ⟨t1, t2, t3, t4, t5, t6, t7⟩ := unhide HG
    generalize u.add m = v at *
    generalize wrap64 (isum m.pd) = ip at *
    generalize wrap64 (isum m.cd) = ic at *
    generalize m.pd.length = np at *
    generalize m.cd.length = nc at *
    go_wp2_with fail
    go_quiet (fail)
    go_wp2_with fail
    refine (unhide HIP _).mono ?_
    rintro e w7 ⟨rfl, hw7⟩
    subst hw7
    go_wp2_with fail
    refine (unhide HIC _).mono ?_
    rintro e w8 ⟨rfl, hw8⟩
    subst hw8
    go_wp2_with fail
    go_quiet (fail)
    go_wp2_with fail
    go_ret
    exact ⟨rfl, by rw [World.drewN_drewN]; exact (unhide HB6).trans ((below_dW _ _).mono (unhide HB6).size)⟩
end Go.Proofs.Qxb6604298a
