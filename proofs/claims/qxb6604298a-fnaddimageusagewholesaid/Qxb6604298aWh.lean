import Derived.Test.Qxb6604298aWe
import Derived.Test.Qxb6604298aWg
/-! The walk of the law FnAddImageUsageSplitAddsUp (5). -/
namespace Go.Proofs.Qxb6604298a
open Go.RowKit
set_option maxHeartbeats 1000000

/-- The usage so far: nil, or one of our own that has the property p. -/
def Acc (w0 w : World) (v : Value) (p : Im → Prop) : Prop :=
  (v = .pointer none ∧ p Im.zero) ∨ ∃ b d u, v = .pointer (some ⟨b, 0, none⟩) ∧ ImAt w b d u ∧ w0.heap.size ≤ b ∧ w0.heap.size ≤ d ∧ p u

theorem zai_acc (w0 : World) (v : Value) (p : Im → Prop) (g : Nat) (m : Mt) (w : World) (ho : MtOk m) (hm : MtAt w g 0 m) (hw : w0.heap.size ≤ w.heap.size) (ha : Acc w0 w v p) :
    Calls Try.prog 11 #[v, .pointer (some ⟨g, 0, none⟩)] w fun e w' => ∃ b d u, e = .returned (.pointer (some ⟨b, 0, none⟩)) ∧ ImAt w' b d (u.add m) ∧ p u ∧ w0.heap.size ≤ b ∧ w0.heap.size ≤ d ∧ Below w0.heap.size w w' := by
  rcases ha with ⟨rfl, hp⟩ | ⟨b, d, u, rfl, hu, hb, hd, hp⟩
  · refine (zai_none g m w ho hm).mono ?_
    rintro e w' ⟨b, d, rfl, h1, h2, h3, h4⟩
    exact ⟨b, d, Im.zero, rfl, h3, hp, by omega, by omega, h4.mono hw⟩
  · refine (zai_some b d u g m w ho hu hm).mono ?_
    rintro e w' ⟨rfl, h1, h2⟩
    exact ⟨b, d, u, rfl, h1, hp, hb, hd, h2.below hw (by simp; omega)⟩

theorem Acc.grown {w0 w w' : World} {v : Value} {p : Im → Prop} (hb : Below w.heap.size w w') (h : Acc w0 w v p) : Acc w0 w' v p := by
  rcases h with h | ⟨b, d, u, h1, h2, h3⟩
  · exact Or.inl h
  · exact Or.inr ⟨b, d, u, h1, h2.grown hb, h3⟩

theorem below_dN (w : World) (n : Nat) : Below w.heap.size w (w.drewN n) := ⟨rfl, rfl, rfl, Nat.le_refl _, fun _ _ => rfl⟩

def si : List Mt → Int
  | [] => 0
  | m :: ms => isum m.pd + si ms
def so : List Mt → Int
  | [] => 0
  | m :: ms => isum m.cd + so ms
theorem si_snoc (ms : List Mt) (k : Nat) (h : k < ms.length) : si (ms.take (k + 1)) = si (ms.take k) + isum ms[k].pd := by
  have ap : ∀ xs ys : List Mt, si (xs ++ ys) = si xs + si ys := fun xs ys => by
    induction xs with
    | nil => simp [si]
    | cons x xs ih => simp only [List.cons_append, si, ih]; omega
  rw [List.take_succ_eq_append_getElem h, ap]; simp [si]
theorem so_snoc (ms : List Mt) (k : Nat) (h : k < ms.length) : so (ms.take (k + 1)) = so (ms.take k) + isum ms[k].cd := by
  have ap : ∀ xs ys : List Mt, so (xs ++ ys) = so xs + so ys := fun xs ys => by
    induction xs with
    | nil => simp [so]
    | cons x xs ih => simp only [List.cons_append, so, ih]; omega
  rw [List.take_succ_eq_append_getElem h, ap]; simp [so]

/-- The invariant of the split. -/
structure Split (a c : Int) (u : Im) : Prop where
  i : u.inp = wrap64 (u.it + u.ii)
  o : u.out = wrap64 (u.ot + u.oi)
  ii : u.ii = wrap64 a
  oi : u.oi = wrap64 c

theorem Split.zero : Split 0 0 Im.zero := ⟨by simp [Im.zero, wrap64_zero], by simp [Im.zero, wrap64_zero], by simp [Im.zero, wrap64_zero], by simp [Im.zero, wrap64_zero]⟩
theorem Split.add {a c : Int} {u : Im} (h : Split a c u) (m : Mt) : Split (a + isum m.pd) (c + isum m.cd) (u.add m) := by
  obtain ⟨h1, h2, h3, h4⟩ := h
  refine ⟨?_, ?_, ?_, ?_⟩
  · simp only [Im.add, h1]; unfold wrap64; omega
  · simp only [Im.add, h2]; unfold wrap64; omega
  · simp only [Im.add, h3]; unfold wrap64; omega
  · simp only [Im.add, h4]; unfold wrap64; omega

set_option maxRecDepth 100000 in
theorem split_some (b off cap : Nat) (ms : List Mt) (w : World) (hl : ms.length ≤ 9223372036854775807)
    (hm : ∀ i (h : i < ms.length), MtAt w b (off + i * 6) ms[i] ∧ MtFit ms[i]) :
    Calls Try.prog 5 #[.slice (some ⟨b, off, none⟩) ms.length cap] w fun e w' => e = .returned (.bool true) ∧ Below w.heap.size w w' := by
  have h19 := zb19_some b off cap ms w (fun i h => (hm i h).1)
  have HM1 := hide hm
  clear hm
  go_enter Try.func5, Try.ntmps5
  go_wp2_with fail
  refine h19.mono ?_
  rintro e w1 ⟨⟨r, rfl, hr⟩, hw1⟩
  subst hw1
  clear h19
  cases r
  · go_wp2_with fail
    go_ret
    exact ⟨rfl, Below.refl _ _⟩
  have hlens := hr rfl
  clear hr
  have hm : ∀ i (h : i < ms.length), MtAt w1 b (off + i * 6) ms[i] ∧ MtOk ms[i] := fun i h =>
    ⟨(unhide HM1 i h).1, ⟨(unhide HM1 i h).2.p, (unhide HM1 i h).2.c, (unhide HM1 i h).2.t, (unhide HM1 i h).2.s, by have := lens_get ms i h; omega, by have := lens_get ms i h; omega⟩⟩
  have h20 := lbytes_some b off cap ms w1 hl hm
  have HM := hide hm
  clear hm hlens
  go_wp2_with fail
  refine h20.mono ?_
  rintro e w2 ⟨⟨n, rfl⟩, hw2⟩
  subst hw2
  clear h20
  go_wp2_with fail
  · go_ret
    exact ⟨rfl, Below.refl _ _⟩
  go_loopw [3, 4, 5, 6] (fun acc a c i wr => ∃ k : Nat, k ≤ ms.length ∧ i = .int .i64 k ∧ a = .int .i64 (wrap64 (si (ms.take k))) ∧ c = .int .i64 (wrap64 (so (ms.take k))) ∧ Below w2.heap.size w2 wr ∧
      Acc w2 wr acc (Split (si (ms.take k)) (so (ms.take k))) ∧ (k = 0 → acc = .pointer none)) (fun _ _ _ i _ => ms.length - (intOf i).toNat)
  case atStart => exact ⟨0, Nat.zero_le _, rfl, by simp [si, wrap64_zero], by simp [so, wrap64_zero], Below.refl _ _, Or.inl ⟨rfl, Split.zero⟩, fun _ => rfl⟩
  case round =>
    obtain ⟨k, hk, rfl, rfl, rfl, hbr, hacc, hk0⟩ := hrel
    by_cases hlt : k < ms.length
    · have hat := ((unhide HM) k hlt).1.grown hbr
      have hok := ((unhide HM) k hlt).2
      have HSI := hide (si_snoc ms k hlt)
      have HSO := hide (so_snoc ms k hlt)
      have HACC := hide hacc
      have h9 := tg_any b (off + k * 6) ms[k] wr hok hat
      have HAT := hide hat
      clear hacc hk0 hat
      have HM0 := hide (fun (W : World) (hb : Below w2.heap.size w2 W) => ((unhide HM) k hlt).1.grown hb)
      obtain ⟨m, hmk⟩ : ∃ m, m = ms[k] := ⟨_, rfl⟩
      rw [← hmk] at h9 hok HAT HSI HSO HM0
      clear hmk
      go_wp2_with fail
      refine h9.mono ?_
      rintro e w3 ⟨g, pa', pc', ca', cc', rfl, hb3, hg1, hg2, hmt, _, _, _, _⟩
      clear h9
      have hsz : w2.heap.size ≤ w3.heap.size := Nat.le_trans hbr.size hb3.size
      have h11 := zai_acc w2 u3 (Split (si (ms.take k)) (so (ms.take k))) g ⟨m.p, m.c, m.t, m.s, pa', pc', m.pd, ca', cc', m.cd⟩ w3 ⟨hok.p, hok.c, hok.t, hok.s, hok.pl, hok.cl⟩ hmt hsz ((unhide HACC).grown hb3)
      have HB3 := hide (hbr.trans (hb3.mono hbr.size))
      clear hmt hg1 hg2 HACC HAT hb3
      go_wp2_with fail
      refine h11.mono ?_
      rintro e w4 ⟨b', d', u, rfl, hu, hsp, hb', hd', hb4⟩
      clear h11
      have hbw : Below w2.heap.size w2 w4 := (unhide HB3).trans hb4
      have hu' : ImAt w4 b' d' (u.add m) := hu
      have hsp' := hsp.add m
      clear hu hsp hb4 HB3
      have hat := unhide HM0 w4 hbw
      have h13p := img_any m.pa m.pc m.pd w4 (by have := hok.pl; omega) hat.pd
      have h13c := img_any m.ca m.cc m.cd w4 (by have := hok.cl; omega) hat.cd
      have c4 := hat.pv
      have c5 := hat.cv
      have HBW := hide hbw
      have HSP := hide hsp'
      have HU := hide hu'
      obtain ⟨e0, e1, e2, e3, e4, e5, e6, e7, f0, f1, ne, _, _⟩ := hu'
      have t1 : ((u.add m).inp != wrap64 ((u.add m).it + (u.add m).ii)) = false := by rw [hsp'.i]; simp
      have t2 : ((u.add m).out != wrap64 ((u.add m).ot + (u.add m).oi)) = false := by rw [hsp'.o]; simp
      have t3 : ((u.add m).ii != wrap64 (wrap64 (si (ms.take k)) + wrap64 (isum m.pd))) = false := by rw [hsp'.ii, wrap64_wadd, wrap64_addw]; simp
      have t4 : ((u.add m).oi != wrap64 (wrap64 (so (ms.take k)) + wrap64 (isum m.cd))) = false := by rw [hsp'.oi, wrap64_wadd, wrap64_addw]; simp
      clear hat hbw hsp' f0 f1 HM0 hok
      generalize u.add m = v at *
      generalize hip : wrap64 (isum m.pd) = ip at *
      generalize hic : wrap64 (isum m.cd) = ic at *
      have HIP := hide hip
      have HIC := hide hic
      clear hip hic
      generalize m.pd.length = np at *
      generalize m.cd.length = nc at *
      go_wp2_with fail
      refine h13p.mono ?_
      rintro e w5 ⟨rfl, hw5⟩
      subst hw5
      go_wp2_with fail
      refine h13c.mono ?_
      rintro e w6 ⟨rfl, hw6⟩
      subst hw6
      clear h13p h13c c4 c5
      go_wp2_with fail
      go_quiet (fail)
      go_wp2_with fail
      go_quiet (fail)
      go_wp2_with fail
      go_roundw
      case rel =>
        refine ⟨k + 1, by omega, by go_num, ?_, ?_, (unhide HBW).trans ((below_dN _ _).mono (unhide HBW).size), Or.inr ⟨b', d', v, rfl, (unhide HU).grown (below_dN _ _), hb', hd', ?_⟩, by omega⟩
        · rw [unhide HSI, ← unhide HIP, wrap64_wadd, wrap64_addw]
        · rw [unhide HSO, ← unhide HIC, wrap64_wadd, wrap64_addw]
        · rw [unhide HSI, unhide HSO]; exact unhide HSP
      case measure => simp [intOf]; omega
    · by_cases h0 : ms.length = 0
      · have hn := hk0 (by omega)
        subst hn
        clear hk0 hacc
        go_wp2_with fail
        go_ret
        exact ⟨rfl, hbr⟩
      · clear hk0 hacc
        go_wp2_with fail
        go_ret
        exact ⟨rfl, hbr⟩

theorem split_none (a : Option Addr) (cap : Nat) (w : World) :
    Calls Try.prog 5 #[.slice a 0 cap] w fun e w' => e = .returned (.bool true) ∧ Below w.heap.size w w' := by
  have h19 := zb19_none a cap w
  have h20 := lbytes_none a cap w
  go_enter Try.func5, Try.ntmps5
  go_wp2_with fail
  refine h19.mono ?_
  rintro e w1 ⟨⟨r, rfl, hr⟩, hw1⟩
  subst hw1
  clear hr h19
  go_wp2_with fail
  · go_ret
    exact ⟨rfl, Below.refl _ _⟩
  refine h20.mono ?_
  rintro e w2 ⟨⟨n, rfl⟩, hw2⟩
  subst hw2
  clear h20
  go_wp2_with fail
  · go_ret
    exact ⟨rfl, Below.refl _ _⟩
  refine wp_loop_rounds 1 ?_
  rw [rounds_succ]
  go_wp2_with fail
  go_ret
  exact ⟨rfl, Below.refl _ _⟩
end Go.Proofs.Qxb6604298a
