import Derived.Test.Qxb6604298aWd
import Derived.Deep.DeepCutAuto
namespace Go.Proofs.Qxb6604298a
open Go.RowKit
set_option maxHeartbeats 1000000
set_option linter.unusedSimpArgs false

/-- An image usage: the total, the input, the output, and their parts. -/
structure Im where
  tot : Int
  inp : Int
  out : Int
  it : Int
  ii : Int
  ot : Int
  oi : Int

/-- It lies at the heads of blocks b and d, which may be written. -/
structure ImAt (w : World) (b d : Nat) (u : Im) : Prop where
  tot : w.cell? ⟨b, 0, none⟩ = some (.int .i64 u.tot)
  inp : w.cell? ⟨b, 1, none⟩ = some (.int .i64 u.inp)
  out : w.cell? ⟨b, 2, none⟩ = some (.int .i64 u.out)
  it : w.cell? ⟨b, 3, none⟩ = some (.int .i64 u.it)
  ii : w.cell? ⟨b, 4, none⟩ = some (.int .i64 u.ii)
  od : w.cell? ⟨b, 5, none⟩ = some (.pointer (some ⟨d, 0, none⟩))
  ot : w.cell? ⟨d, 0, none⟩ = some (.int .i64 u.ot)
  oi : w.cell? ⟨d, 1, none⟩ = some (.int .i64 u.oi)
  fb : ∀ j, w.frozen? ⟨b, j, none⟩ = false
  fd : ∀ j, w.frozen? ⟨d, j, none⟩ = false
  ne : b ≠ d
  wb : Own w b
  wd : Own w d

theorem ImAt.grown {w w' : World} {b d : Nat} {u : Im} (hb : Below w.heap.size w w') (h : ImAt w b d u) : ImAt w' b d u :=
  ⟨cell_grown hb h.tot, cell_grown hb h.inp, cell_grown hb h.out, cell_grown hb h.it, cell_grown hb h.ii, cell_grown hb h.od, cell_grown hb h.ot, cell_grown hb h.oi,
    fun j => by rw [hb.frozen (p := ⟨b, j, none⟩) (lt_of_cell h.tot)]; exact h.fb j, fun j => by rw [hb.frozen (p := ⟨d, j, none⟩) (lt_of_cell h.ot)]; exact h.fd j, h.ne, h.wb.grown hb, h.wd.grown hb⟩

def Im.zero : Im := ⟨0, 0, 0, 0, 0, 0, 0⟩
/-- What addImageUsage makes of u. -/
def Im.add (u : Im) (m : Mt) : Im :=
  ⟨wrap64 (u.tot + m.s), wrap64 (u.inp + m.p), wrap64 (u.out + wrap64 (m.c + m.t)),
   wrap64 (u.it + wrap64 (m.p - wrap64 (isum m.pd))), wrap64 (u.ii + wrap64 (isum m.pd)),
   wrap64 (u.ot + wrap64 (wrap64 (m.c + m.t) - wrap64 (isum m.cd))), wrap64 (u.oi + wrap64 (isum m.cd))⟩

/-- The seven stores of addImageUsage. -/
theorem seven {w : World} {b d : Nat} {u : Im} (h : ImAt w b d u) (v1 v3 v4 v2 y0 y1 v0 : Int) :
    ImAt (((((((w.setCell ⟨b, 1, none⟩ (.int .i64 v1)).setCell ⟨b, 3, none⟩ (.int .i64 v3)).setCell ⟨b, 4, none⟩ (.int .i64 v4)).setCell ⟨b, 2, none⟩ (.int .i64 v2)).setCell ⟨d, 0, none⟩ (.int .i64 y0)).setCell ⟨d, 1, none⟩ (.int .i64 y1)).setCell ⟨b, 0, none⟩ (.int .i64 v0)).drew.drew.drew.drew.drew b d ⟨v0, v1, v2, v3, v4, y0, y1⟩ ∧
    Fr [b, d] w (((((((w.setCell ⟨b, 1, none⟩ (.int .i64 v1)).setCell ⟨b, 3, none⟩ (.int .i64 v3)).setCell ⟨b, 4, none⟩ (.int .i64 v4)).setCell ⟨b, 2, none⟩ (.int .i64 v2)).setCell ⟨d, 0, none⟩ (.int .i64 y0)).setCell ⟨d, 1, none⟩ (.int .i64 y1)).setCell ⟨b, 0, none⟩ (.int .i64 v0)).drew.drew.drew.drew.drew := by
  obtain ⟨e0, e1, e2, e3, e4, e5, e6, e7, f0, f1, ne, o1, o2⟩ := h
  have ne' : d ≠ b := fun h => ne h.symm
  refine ⟨⟨?_, ?_, ?_, ?_, ?_, ?_, ?_, ?_, ?_, ?_, ne, ?_, ?_⟩, ?_⟩
  any_goals (simp only [World.cell?_drew])
  any_goals (simp [World.cell?_setCell_other, World.cell?_setCell_same', ne, ne', e0, e1, e2, e3, e4, e5, e6, e7]; done)
  · intro j; simpa using f0 j
  · intro j; simpa using f1 j
  · exact (((((((o1.setCell _ _ _).setCell _ _ _).setCell _ _ _).setCell _ _ _).setCell _ _ _).setCell _ _ _).setCell _ _ _).drew.drew.drew.drew.drew
  · exact (((((((o2.setCell _ _ _).setCell _ _ _).setCell _ _ _).setCell _ _ _).setCell _ _ _).setCell _ _ _).setCell _ _ _).drew.drew.drew.drew.drew
  · exact ((((((((Fr.refl _ w).setCell (by simp) _).setCell (by simp) _).setCell (by simp) _).setCell (by simp) _).setCell (by simp) _).setCell (by simp) _).setCell (by simp) _).drew.drew.drew.drew.drew

theorem st_step {w W W' : World} {b : Nat} {x4 x5 : Value}
    (h : Below w.heap.size w W ∧ W.cell? ⟨b, 4, none⟩ = some x4 ∧ W.cell? ⟨b, 5, none⟩ = some x5)
    (hb : Below W.heap.size W W') : Below w.heap.size w W' ∧ W'.cell? ⟨b, 4, none⟩ = some x4 ∧ W'.cell? ⟨b, 5, none⟩ = some x5 := by
  obtain ⟨h, c4, c5⟩ := h
  exact ⟨h.trans (hb.mono h.size), cell_grown hb c4, cell_grown hb c5⟩
theorem st_left {w W : World} {b : Nat} {x4 x5 : Value}
    (h : Below w.heap.size w W ∧ W.cell? ⟨b, 4, none⟩ = some x4 ∧ W.cell? ⟨b, 5, none⟩ = some x5) : Below w.heap.size w W := h.1

set_option maxRecDepth 100000 in
theorem ai_core (v0 : Option Addr) (g : Nat) (m : Mt) (w : World) (R : Nat → Nat → Im → Prop) (ho : MtOk m)
    (ht : v0 = none → ∀ b d, w.heap.size ≤ b → w.heap.size ≤ d → R b d Im.zero)
    (hf : v0.isSome = true → ∃ b d u, v0 = some ⟨b, 0, none⟩ ∧ ImAt w b d u ∧ R b d u)
    (hm : MtAt w g 0 m) :
    Calls Try.prog 25 #[.pointer v0, .pointer (some ⟨g, 0, none⟩)] w fun e w' => ∃ b d u, e = .returned (.pointer (some ⟨b, 0, none⟩)) ∧ R b d u ∧ ImAt w' b d (u.add m) ∧ Fr [b, d] w w' := by
  have HT := hide ht
  have HF := hide hf
  have HM := hide hm
  clear ht hf hm
  go_enter Try.func25, Try.ntmps25
  go_upto_if 12 with (fail)
  go_cut [0] (fun s0 wc => ∃ b d u, s0 = .pointer (some ⟨b, 0, none⟩) ∧ ImAt wc b d u ∧ R b d u ∧ Fr [b, d] w wc ∧ Below w.heap.size w wc)
  case first =>
    cases v0
    · go_wp2_with fail
      go_meet
      case rel =>
        refine ⟨w.heap.size + 1, w.heap.size, Im.zero, rfl, ?_, unhide HT (by trivial) _ _ (by omega) (by omega), ?_, ?_⟩
        · exact ⟨by simp [Im.zero], by simp [Im.zero], by simp [Im.zero], by simp [Im.zero], by simp [Im.zero], by simp, by simp [Im.zero], by simp [Im.zero], fun j => by simp, fun j => by simp, by omega, by have := Own.new (w.alloc (.cells #[.int .i64 0, .int .i64 0] 53)) #[.int .i64 0, .int .i64 0, .int .i64 0, .int .i64 0, .int .i64 0, .pointer (some ⟨w.heap.size, 0, none⟩)] 55; simpa using this, (Own.new w _ _).grown ((Below.refl _ _).alloc (Nat.le_refl _) _)⟩
        · exact (Fr.refl _ _ |>.alloc _).alloc _
        · exact ((Below.refl _ _).alloc (Nat.le_refl _) _).alloc (by simp) _
    · obtain ⟨b, d, u, hv, hu, hR⟩ := unhide HF rfl
      go_wp2_with fail
      go_meet
      case rel => exact ⟨b, d, u, by rw [hv], hu, hR, Fr.refl _ _, Below.refl _ _⟩
  case rest =>
    obtain ⟨b, d, u, rfl, hu, hR, hfr, hbl⟩ := hcut
    have HR := hide hR
    have HFR := hide hfr
    have HU := hide hu
    have hm := (unhide HM).grown hbl
    have hcl := uo_any g m.p m.c m.t m.s wc hm.p hm.c hm.t hm.s
    clear hR hfr hu
    go_wp2_with fail
    refine hcl.mono ?_
    rintro e w1 ⟨rfl, hw1⟩
    obtain ⟨cb, hcb⟩ : ∃ cb, cb = wc.heap.size := ⟨_, rfl⟩
    have hb1 : Below wc.heap.size wc w1 := by rw [hw1]; exact ((Below.refl _ _).alloc (Nat.le_refl _) _).drew
    have k0 : w1.cell? ⟨cb, 0, none⟩ = some (.int .i64 m.p) := by rw [hw1, hcb]; simp
    have k1 : w1.cell? ⟨cb, 1, none⟩ = some (.int .i64 (wrap64 (m.c + m.t))) := by rw [hw1, hcb]; simp
    have k2 : w1.cell? ⟨cb, 2, none⟩ = some (.int .i64 m.s) := by rw [hw1, hcb]; simp
    have hm1 := hm.grown hb1
    have c4 : w1.cell? ⟨g, 4, none⟩ = some (.slice m.pa m.pd.length m.pc) := hm1.pv
    have c5 : w1.cell? ⟨g, 5, none⟩ = some (.slice m.ca m.cd.length m.cc) := hm1.cv
    have HP := hide (fun (W : World) (hb : Below w1.heap.size w1 W) => tok_any m.pa m.pc m.pd W (by have := ho.pl; omega) (hm1.pd.grown hb))
    have HC := hide (fun (W : World) (hb : Below w1.heap.size w1 W) => tok_any m.ca m.cc m.cd W (by have := ho.cl; omega) (hm1.cd.grown hb))
    have nb : b ≠ cb := by have := lt_of_cell (unhide HU).tot; omega
    have nd : d ≠ cb := by have := lt_of_cell (unhide HU).ot; omega
    have HB1 := hide hb1
    have HBL := hide hbl
    rw [← hcb]
    clear hw1 hcb hcl hm hm1 hb1 ho hbl
    generalize m.pd.length = np at *
    generalize m.cd.length = nc at *
    generalize hip : isum m.pd = ip at *
    generalize hic : isum m.cd = ic at *
    have HIP := hide hip
    have HIC := hide hic
    clear hip hic
    have hS : Below w1.heap.size w1 w1 ∧ w1.cell? ⟨g, 4, none⟩ = some (.slice m.pa np m.pc) ∧ w1.cell? ⟨g, 5, none⟩ = some (.slice m.ca nc m.cc) := ⟨Below.refl _ _, c4, c5⟩
    clear c4 c5
    go_wp2_with fail
    go_region_held (fun W => Below w1.heap.size w1 W ∧ W.cell? ⟨g, 4, none⟩ = some (.slice m.pa np m.pc) ∧ W.cell? ⟨g, 5, none⟩ = some (.slice m.ca nc m.cc))
      (first | exact st_step hS (Below.refl _ _).drew | exact st_step (by assumption) (by assumption))
      (first
        | (go_at_call_of 27 (Value.slice m.pa np m.pc); refine (unhide HP _ ?_).mono ?_; (exact st_left (by assumption)); rintro e w2 ⟨rfl, hb2⟩)
        | (go_at_call_of 27 (Value.slice m.ca nc m.cc); refine (unhide HC _ ?_).mono ?_; (exact st_left (by assumption)); rintro e w3 ⟨rfl, hb3⟩))
    have hb : Below w1.heap.size w1 w3 := st_left (by assumption)
    have hu3 := ((unhide HU).grown (unhide HB1)).grown hb
    have k0 := cell_grown hb k0
    have k1 := cell_grown hb k1
    have k2 := cell_grown hb k2
    have HB := hide hb
    obtain ⟨e0, e1, e2, e3, e4, e5, e6, e7, f0, f1, ne, o1, o2⟩ := hu3
    have O1 := hide o1
    have O2 := hide o2
    have ne' : d ≠ b := fun h => ne h.symm
    have nb' : cb ≠ b := fun h => nb h.symm
    have nd' : cb ≠ d := fun h => nd h.symm
    clear hb hb2 hb3 hS HP HC o1 o2
    go_wp2_with fail
    go_region
    go_wp2_with fail
    go_region
    go_wp2_with fail
    go_region
    go_wp2_with fail
    go_region
    go_wp2_with fail
    go_region
    go_wp2_with fail
    go_ret
    obtain ⟨s1, s2⟩ := seven (w := w3) (b := b) (d := d) (u := u) ⟨e0, e1, e2, e3, e4, e5, e6, e7, f0, f1, ne, unhide O1, unhide O2⟩ (wrap64 (u.inp + m.p)) (wrap64 (u.it + wrap64 (m.p - wrap64 ip))) (wrap64 (u.ii + wrap64 ip)) (wrap64 (u.out + wrap64 (m.c + m.t))) (wrap64 (u.ot + wrap64 (wrap64 (m.c + m.t) - wrap64 ic))) (wrap64 (u.oi + wrap64 ic)) (wrap64 (u.tot + m.s))
    refine ⟨b, d, u, rfl, unhide HR, ?_, ?_⟩
    · unfold Im.add
      rw [unhide HIP, unhide HIC]
      exact s1
    · exact (((unhide HFR).trans (Fr.of_below (unhide HB1))).trans (Fr.of_below (unhide HB))).trans s2

/-- addImageUsage onto a usage that lies in memory. -/
theorem ai_some (b d : Nat) (u : Im) (g : Nat) (m : Mt) (w : World) (ho : MtOk m) (hu : ImAt w b d u) (hm : MtAt w g 0 m) :
    Calls Try.prog 25 #[.pointer (some ⟨b, 0, none⟩), .pointer (some ⟨g, 0, none⟩)] w fun e w' => e = .returned (.pointer (some ⟨b, 0, none⟩)) ∧ ImAt w' b d (u.add m) ∧ Fr [b, d] w w' := by
  refine (ai_core (some ⟨b, 0, none⟩) g m w (fun b' d' u' => b' = b ∧ d' = d ∧ u' = u) ho (fun h => by cases h) (fun _ => ⟨b, d, u, rfl, hu, rfl, rfl, rfl⟩) hm).mono ?_
  rintro e w' ⟨b', d', u', rfl, ⟨rfl, rfl, rfl⟩, h1, h2⟩
  exact ⟨rfl, h1, h2⟩

/-- addImageUsage onto nil: a fresh usage with fresh details. -/
theorem ai_none (g : Nat) (m : Mt) (w : World) (ho : MtOk m) (hm : MtAt w g 0 m) :
    Calls Try.prog 25 #[.pointer none, .pointer (some ⟨g, 0, none⟩)] w fun e w' => ∃ b d, e = .returned (.pointer (some ⟨b, 0, none⟩)) ∧ w.heap.size ≤ b ∧ w.heap.size ≤ d ∧ ImAt w' b d (Im.zero.add m) ∧ Below w.heap.size w w' := by
  refine (ai_core none g m w (fun b' d' u' => w.heap.size ≤ b' ∧ w.heap.size ≤ d' ∧ u' = Im.zero) ho (fun _ b d h1 h2 => ⟨h1, h2, rfl⟩) (fun h => by cases h) hm).mono ?_
  rintro e w' ⟨b', d', u', rfl, ⟨h1, h2, rfl⟩, h3, h4⟩
  exact ⟨b', d', rfl, h1, h2, h3, h4.below (Nat.le_refl _) (by simp; omega)⟩

/-- addImageUsage of nil metadata hands back its first argument. -/
theorem ai_nil (v0 : Option Addr) (w : World) : Calls Try.prog 25 #[.pointer v0, .pointer none] w fun e w' => e = .returned (.pointer v0) ∧ w' = w := by
  go_enter Try.func25, Try.ntmps25
  go_wp2
  go_ret
  exact ⟨rfl, rfl⟩

/-! ZZaddImageUsage (11) and ZZusageOf (10): the same under another name. -/
theorem zai_some (b d : Nat) (u : Im) (g : Nat) (m : Mt) (w : World) (ho : MtOk m) (hu : ImAt w b d u) (hm : MtAt w g 0 m) :
    Calls Try.prog 11 #[.pointer (some ⟨b, 0, none⟩), .pointer (some ⟨g, 0, none⟩)] w fun e w' => e = .returned (.pointer (some ⟨b, 0, none⟩)) ∧ ImAt w' b d (u.add m) ∧ Fr [b, d] w w' := by
  have hc := ai_some b d u g m w ho hu hm
  clear ho hu hm
  go_enter Try.func11, Try.ntmps11
  go_wp2_with fail
  refine hc.mono ?_
  rintro e w' ⟨rfl, h1, h2⟩
  go_wp2_with fail
  go_ret
  exact ⟨rfl, h1, h2⟩
theorem zai_none (g : Nat) (m : Mt) (w : World) (ho : MtOk m) (hm : MtAt w g 0 m) :
    Calls Try.prog 11 #[.pointer none, .pointer (some ⟨g, 0, none⟩)] w fun e w' => ∃ b d, e = .returned (.pointer (some ⟨b, 0, none⟩)) ∧ w.heap.size ≤ b ∧ w.heap.size ≤ d ∧ ImAt w' b d (Im.zero.add m) ∧ Below w.heap.size w w' := by
  have hc := ai_none g m w ho hm
  clear ho hm
  go_enter Try.func11, Try.ntmps11
  go_wp2_with fail
  refine hc.mono ?_
  rintro e w' ⟨b, d, rfl, h1, h2, h3, h4⟩
  go_wp2_with fail
  go_ret
  exact ⟨b, d, rfl, h1, h2, h3, h4⟩
theorem zai_nil (v0 : Option Addr) (w : World) : Calls Try.prog 11 #[.pointer v0, .pointer none] w fun e w' => e = .returned (.pointer v0) ∧ w' = w := by
  have hc := ai_nil v0 w
  go_enter Try.func11, Try.ntmps11
  go_wp2_with fail
  refine hc.mono ?_
  rintro e w' ⟨rfl, rfl⟩
  go_wp2_with fail
  go_ret
  exact ⟨rfl, rfl⟩
end Go.Proofs.Qxb6604298a
