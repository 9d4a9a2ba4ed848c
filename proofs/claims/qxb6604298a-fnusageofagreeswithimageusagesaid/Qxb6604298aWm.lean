import Derived.Test.Qxb6604298aWe
import Derived.Test.Qxb6604298aWa
import Derived.Test.Qxb6604298aWl
/-! ImageUsage.Usage (12), ZZusageOf (10), and the walk of the law FnUsageOfAgreesWithImageUsage (3). -/
namespace Go.Proofs.Qxb6604298a
open Go.RowKit
set_option maxHeartbeats 2000000
set_option maxRecDepth 100000

theorem below_dN7 (w : World) (n : Nat) : Below w.heap.size w (w.drewN n) := ⟨rfl, rfl, rfl, Nat.le_refl _, fun _ _ => rfl⟩

theorem zuo_any (b : Nat) (p c t s : Int) (w : World)
    (h0 : w.cell? ⟨b, 0, none⟩ = some (.int .i64 p)) (h1 : w.cell? ⟨b, 0 + 1, none⟩ = some (.int .i64 c)) (h2 : w.cell? ⟨b, 0 + 2, none⟩ = some (.int .i64 t)) (h3 : w.cell? ⟨b, 0 + 3, none⟩ = some (.int .i64 s)) :
    Calls Try.prog 10 #[.pointer (some ⟨b, 0, none⟩)] w fun e w' => e = .returned (.pointer (some ⟨w.heap.size, 0, none⟩)) ∧
      w' = (w.alloc (.cells #[.int .i64 p, .int .i64 (wrap64 (c + t)), .int .i64 s, .int .i64 t, .pointer none] 35)).drew := by
  have hc := uo_any b p c t s w h0 h1 h2 h3
  clear h0 h1 h2 h3
  go_enter Try.func10, Try.ntmps10
  go_wp2_with fail
  refine hc.mono ?_
  rintro e w1 ⟨rfl, hw1⟩
  subst hw1
  go_wp2_with fail
  go_ret
  exact ⟨rfl, rfl⟩

theorem zuo_nil (w : World) : Calls Try.prog 10 #[.pointer none] w fun e w' => e = .returned (.pointer none) ∧ w' = w := by
  have hc := uo_nil w
  go_enter Try.func10, Try.ntmps10
  go_wp2_with fail
  refine hc.mono ?_
  rintro e w1 ⟨rfl, rfl⟩
  go_wp2_with fail
  go_ret
  exact ⟨rfl, rfl⟩

theorem us_any (u : Im) (d : Nat) (w : World) (h0 : w.cell? ⟨d, 1, none⟩ = some (.int .i64 u.oi)) :
    Calls Try.prog 12 #[.agg #[.int .i64 u.tot, .int .i64 u.inp, .int .i64 u.out, .int .i64 u.it, .int .i64 u.ii, .pointer (some ⟨d, 0, none⟩)]] w fun e w' =>
      ∃ g, e = .returned (.agg #[.int .i64 u.inp, .int .i64 u.out, .int .i64 u.tot, .int .i64 0, .pointer (some ⟨g, 0, none⟩)]) ∧ Below w.heap.size w w' ∧ w.heap.size ≤ g ∧
        w'.cell? ⟨g, 0, none⟩ = some (.int .i64 u.ii) ∧ w'.cell? ⟨g, 1, none⟩ = some (.int .i64 u.oi) := by
  have hd := lt_of_cell h0
  have hd1 : d < w.heap.size + 1 := by omega
  have hd2 : d < w.heap.size + 1 + 1 := by omega
  go_enter Try.func12, Try.ntmps12
  go_wp2
  refine bodyPost_ret (v := .agg #[.int .i64 u.inp, .int .i64 u.out, .int .i64 u.tot, .int .i64 0, .pointer (some ⟨w.heap.size + 1 + 1, 0, none⟩)]) (by simp [results, Try.results12, go_sem]) rfl ⟨w.heap.size + 1 + 1, rfl, ?_, by omega, ?_, ?_⟩
  · exact (((Below.refl _ _).alloc (Nat.le_refl _) _).alloc (by simp) _).alloc (by simp; omega) _
  · simp [go_sem]
  · simp [go_sem]

theorem usage_nil (w : World) : Calls Try.prog 3 #[.pointer none] w fun e w' => e = .returned (.bool true) ∧ Below w.heap.size w w' := by
  have h7 := zb7_nil w
  have h8 := mbytes_nil w
  have h9 := tg_nil w
  have h10 := zuo_nil w
  have h11 := zai_nil none w
  go_enter Try.func3, Try.ntmps3
  go_wp2_with fail
  refine h7.mono ?_
  rintro e w1 ⟨rfl, rfl⟩
  go_wp2_with fail
  refine h8.mono ?_
  rintro e w2 ⟨⟨n, rfl⟩, rfl⟩
  go_wp2_with fail
  · go_ret
    exact ⟨rfl, Below.refl _ _⟩
  refine h9.mono ?_
  rintro e w3 ⟨rfl, rfl⟩
  go_wp2_with fail
  refine h10.mono ?_
  rintro e w4 ⟨rfl, rfl⟩
  go_wp2_with fail
  refine h11.mono ?_
  rintro e w5 ⟨rfl, rfl⟩
  go_wp2_with fail
  go_ret
  exact ⟨rfl, Below.refl _ _⟩

theorem usage_some (b off : Nat) (m : Mt) (w : World) (hm : MtAt w b off m) (hf : MtFit m) :
    Calls Try.prog 3 #[.pointer (some ⟨b, off, none⟩)] w fun e w' => e = .returned (.bool true) ∧ Below w.heap.size w w' := by
  have h7 := zb7_some b off m w hm
  have HM := hide hm
  clear hm
  go_enter Try.func3, Try.ntmps3
  go_wp2_with fail
  refine h7.mono ?_
  rintro e w1 ⟨⟨r, rfl, hr⟩, hw1⟩
  subst hw1
  clear h7
  cases r
  · go_wp2_with fail
    go_ret
    exact ⟨rfl, Below.refl _ _⟩
  have hlen := hr rfl
  have hok : MtOk m := ⟨hf.p, hf.c, hf.t, hf.s, by omega, by omega⟩
  have h8 := mbytes_any b off m w1 hok (unhide HM)
  have h9 := tg_any b off m w1 hok (unhide HM)
  clear hr hlen
  go_wp2_with fail
  refine h8.mono ?_
  rintro e w2 ⟨⟨n, rfl⟩, hw2⟩
  subst hw2
  clear h8
  go_wp2_with fail
  · go_ret
    exact ⟨rfl, Below.refl _ _⟩
  refine h9.mono ?_
  rintro e w3 ⟨g, pa', pc', ca', cc', rfl, hb3, hg1, hg2, hmt, _, _, _, _⟩
  have h10 := zuo_any g m.p m.c m.t m.s w3 hmt.p hmt.c hmt.t hmt.s
  have HMT := hide hmt
  have HB3 := hide hb3
  clear h9 hmt hb3
  go_wp2_with fail
  refine h10.mono ?_
  rintro e w4 ⟨rfl, hw4⟩
  obtain ⟨cb, hcb⟩ : ∃ cb, cb = w3.heap.size := ⟨_, rfl⟩
  have hb4 : Below w3.heap.size w3 w4 := by rw [hw4]; exact ((Below.refl _ _).alloc (Nat.le_refl _) _).drew
  have k0 : w4.cell? ⟨cb, 0, none⟩ = some (.int .i64 m.p) := by rw [hw4, hcb]; simp
  have k1 : w4.cell? ⟨cb, 1, none⟩ = some (.int .i64 (wrap64 (m.c + m.t))) := by rw [hw4, hcb]; simp
  have k2 : w4.cell? ⟨cb, 2, none⟩ = some (.int .i64 m.s) := by rw [hw4, hcb]; simp
  have h11 := zai_none g ⟨m.p, m.c, m.t, m.s, pa', pc', m.pd, ca', cc', m.cd⟩ w4 ⟨hok.p, hok.c, hok.t, hok.s, hok.pl, hok.cl⟩ ((unhide HMT).grown hb4)
  have HB4 := hide ((unhide HB3).trans (hb4.mono (unhide HB3).size))
  have HK := hide (And.intro k0 (And.intro k1 k2))
  rw [← hcb]
  clear h10 hw4 hcb hb4 k0 k1 k2
  go_wp2_with fail
  refine h11.mono ?_
  rintro e w5 ⟨b1, d1, rfl, _, _, hi5, hb5⟩
  clear h11
  have k0 := cell_grown hb5 (unhide HK).1
  have k1 := cell_grown hb5 (unhide HK).2.1
  have k2 := cell_grown hb5 (unhide HK).2.2
  have hi5' : ImAt w5 b1 d1 (Im.zero.add m) := hi5
  have t1 : ((Im.zero.add m).inp == m.p) = true := by simp [Im.add, Im.zero, wrap64_fit hf.p]
  have t2 : ((Im.zero.add m).out == wrap64 (m.c + m.t)) = true := by simp only [Im.add, Im.zero, Int.zero_add]; rw [wrap64_fit (by unfold Fit wrap64; omega)]; simp
  have t3 : ((Im.zero.add m).tot == m.s) = true := by simp [Im.add, Im.zero, wrap64_fit hf.s]
  have t4 : ((Im.zero.add m).ii == wrap64 (isum m.pd)) = true := by simp only [Im.add, Im.zero, Int.zero_add]; rw [wrap64_fit (by unfold Fit wrap64; omega)]; simp
  have t5 : ((Im.zero.add m).oi == wrap64 (isum m.cd)) = true := by simp only [Im.add, Im.zero, Int.zero_add]; rw [wrap64_fit (by unfold Fit wrap64; omega)]; simp
  have HB5 := hide ((unhide HB4).trans (hb5.mono (unhide HB4).size))
  have h12 := us_any (Im.zero.add m) d1 w5 hi5'.oi
  obtain ⟨e0, e1, e2, e3, e4, e5, e6, e7, _, _, ne, _, _⟩ := hi5'
  have HMO := hide hok
  clear hi5 hb5 HK HB4 HB3 HMT hf hok
  generalize Im.zero.add m = v at *
  go_wp2_with fail
  refine h12.mono ?_
  rintro e w6 ⟨g2, rfl, hb6, hg6, i0, i1⟩
  clear h12
  have k0 := cell_grown hb6 k0
  have k1 := cell_grown hb6 k1
  have k2 := cell_grown hb6 k2
  have s0 := lt_of_cell k0
  have s1 := lt_of_cell i0
  have hmm := (unhide HM).grown ((unhide HB5).trans (hb6.mono (unhide HB5).size))
  have s2 := lt_of_cell hmm.p
  have c4 := hmm.pv
  have c5 := hmm.cv
  have HIP := hide (fun (W : World) (hb : Below w6.heap.size w6 W) => img_any m.pa m.pc m.pd W (by have := (unhide HMO).pl; omega) (hmm.pd.grown hb))
  have HIC := hide (fun (W : World) (hb : Below w6.heap.size w6 W) => img_any m.ca m.cc m.cd W (by have := (unhide HMO).cl; omega) (hmm.cd.grown hb))
  have HB6 := hide ((unhide HB5).trans (hb6.mono (unhide HB5).size))
  clear hb6 hmm e0 e1 e2 e3 e4 e5 e6 e7
  generalize m.pd.length = np at *
  generalize m.cd.length = nc at *
  generalize wrap64 (isum m.pd) = ip at *
  generalize wrap64 (isum m.cd) = ic at *
  go_wp2_with fail
  have hb7 : Below w6.heap.size w6 (w6.alloc (.cells #[.int .i64 v.inp, .int .i64 v.out, .int .i64 v.tot, .int .i64 0, .pointer (some ⟨g2, 0, none⟩)] 35)) := (Below.refl _ _).alloc (Nat.le_refl _) _
  have n0 : (w6.alloc (.cells #[.int .i64 v.inp, .int .i64 v.out, .int .i64 v.tot, .int .i64 0, .pointer (some ⟨g2, 0, none⟩)] 35)).cell? ⟨w6.heap.size, 0, none⟩ = some (.int .i64 v.inp) := by simp
  have n1 : (w6.alloc (.cells #[.int .i64 v.inp, .int .i64 v.out, .int .i64 v.tot, .int .i64 0, .pointer (some ⟨g2, 0, none⟩)] 35)).cell? ⟨w6.heap.size, 1, none⟩ = some (.int .i64 v.out) := by simp
  have n2 : (w6.alloc (.cells #[.int .i64 v.inp, .int .i64 v.out, .int .i64 v.tot, .int .i64 0, .pointer (some ⟨g2, 0, none⟩)] 35)).cell? ⟨w6.heap.size, 2, none⟩ = some (.int .i64 v.tot) := by simp
  have n4 : (w6.alloc (.cells #[.int .i64 v.inp, .int .i64 v.out, .int .i64 v.tot, .int .i64 0, .pointer (some ⟨g2, 0, none⟩)] 35)).cell? ⟨w6.heap.size, 4, none⟩ = some (.pointer (some ⟨g2, 0, none⟩)) := by simp
  generalize w6.alloc (.cells #[.int .i64 v.inp, .int .i64 v.out, .int .i64 v.tot, .int .i64 0, .pointer (some ⟨g2, 0, none⟩)] 35) = W7 at hb7 n0 n1 n2 n4 ⊢
  have k0 := cell_grown hb7 k0
  have k1 := cell_grown hb7 k1
  have k2 := cell_grown hb7 k2
  have i0 := cell_grown hb7 i0
  have i1 := cell_grown hb7 i1
  have c4 := cell_grown hb7 c4
  have c5 := cell_grown hb7 c5
  have HB7 := hide ((unhide HB6).trans (hb7.mono (unhide HB6).size))
  have HIP := hide (fun n => unhide HIP (W7.drewN n) (hb7.trans ((below_dN7 W7 n).mono hb7.size)))
  have HIC := hide (fun n => unhide HIC (W7.drewN n) (hb7.trans ((below_dN7 W7 n).mono hb7.size)))
  generalize w6.heap.size = nb at n0 n1 n2 n4 ⊢
  clear hb7 hg6 s0 s1 s2
  go_quiet ((first | (go_at_call_of 13 (Value.slice m.pa np m.pc); exact Calls.quiet_of_same (unhide HIP _)) | (go_at_call_of 13 (Value.slice m.ca nc m.cc); exact Calls.quiet_of_same (unhide HIC _))))
  go_wp2_with fail
  go_ret
  exact ⟨rfl, (unhide HB7).trans ((below_dN7 W7 _).mono (unhide HB7).size)⟩
end Go.Proofs.Qxb6604298a
