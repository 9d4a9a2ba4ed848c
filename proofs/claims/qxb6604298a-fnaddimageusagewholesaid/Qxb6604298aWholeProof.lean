import Derived.Test.Qxb6604298aFrm
import Derived.Test.Qxb6604298aWr
namespace Go.Proofs.Qxb6604298a
open Go.ChangeShapes Go.WideShapes Go.ChangeAt Go.RowKit Go.Deep
set_option linter.unusedVariables false

theorem Try.cells46 : Try.prog.cellsOf 46 = 2 := by kernel_rfl
theorem Try.cells47 : Try.prog.cellsOf 47 = 1 := by kernel_rfl
theorem Try.cells49 : Try.prog.cellsOf 49 = 6 := by kernel_rfl

section
variable {H : Type} {enc : TypeId × Value → H} {W : World} {base : Nat} {spare : Nat → Bool} {held : Bool}

/-- A pair of ints out of its two cells. -/
theorem open_pair {fuel : Nat} {cs : List Value} {x : DataW H × List MemPlace} (h : DataW.trod enc Try.prog W base spare held fuel 46 cs = some x) :
    ∃ k0 k1 : Int, cs[0]? = some (.int .i64 k0) ∧ cs[1]? = some (.int .i64 k1) := by
  obtain ⟨_, n', hf⟩ := field1 Try.underlying46 h
  obtain ⟨c0, y0, e0, t0⟩ := hf 0 _ rfl Try.cells3 (by rw [Try.cells46]; decide)
  obtain ⟨c1, y1, e1, t1⟩ := hf 1 _ rfl Try.cells3 (by rw [Try.cells46]; decide)
  obtain ⟨k0, hk0, _, _⟩ := DataW.trod_int Try.underlying3 t0
  obtain ⟨k1, hk1, _, _⟩ := DataW.trod_int Try.underlying3 t1
  simp only [List.cons.injEq, and_true] at hk0 hk1
  exact ⟨k0, k1, by rw [← hk0]; exact e0, by rw [← hk1]; exact e1⟩

/-- An image usage out of its six cells. -/
theorem open_u {fuel b off : Nat} {cs : List Value} {x : DataW H × List MemPlace} (hc : ∀ j, j < 6 → W.cell? ⟨b, off + j, none⟩ = cs[j]?) (h : DataW.trod enc Try.prog W base spare held fuel 49 cs = some x) :
    ∃ u : Im, UAt W b off u ∧ (W.cell? ⟨b, off + 5, none⟩ = some (.pointer none) ∨
      ∃ d o, W.cell? ⟨b, off + 5, none⟩ = some (.pointer (some ⟨d, o, none⟩)) ∧ W.cell? ⟨d, o, none⟩ = some (.int .i64 u.ot) ∧ W.cell? ⟨d, o + 1, none⟩ = some (.int .i64 u.oi)) := by
  obtain ⟨_, n', hf⟩ := field1 Try.underlying49 h
  obtain ⟨c0, y0, e0, t0⟩ := hf 0 _ rfl Try.cells3 (by rw [Try.cells49]; decide)
  obtain ⟨c1, y1, e1, t1⟩ := hf 1 _ rfl Try.cells3 (by rw [Try.cells49]; decide)
  obtain ⟨c2, y2, e2, t2⟩ := hf 2 _ rfl Try.cells3 (by rw [Try.cells49]; decide)
  obtain ⟨c4, y4, e4, t4⟩ := hf 4 _ rfl Try.cells47 (by rw [Try.cells49]; decide)
  obtain ⟨k0, hk0, _, _⟩ := DataW.trod_int Try.underlying3 t0
  obtain ⟨k1, hk1, _, _⟩ := DataW.trod_int Try.underlying3 t1
  obtain ⟨k2, hk2, _, _⟩ := DataW.trod_int Try.underlying3 t2
  simp only [List.cons.injEq, and_true] at hk0 hk1 hk2
  obtain ⟨xs, n, _, _, hl, hlen, hg⟩ := DataW.trod_struct Try.underlying49 h
  have h3 : DataW.trod enc Try.prog W base spare held n 46 ((cs.drop 3).take (Try.prog.cellsOf 46)) = xs[3]? := hg 3 _ rfl
  rw [List.getElem?_eq_getElem (show 3 < xs.length by rw [hlen]; decide)] at h3
  obtain ⟨k3, k3', s0, s1⟩ := open_pair h3
  rw [Try.cells46] at s0 s1
  simp only [List.getElem?_take, List.getElem?_drop] at s0 s1
  have a0 : W.cell? ⟨b, off, none⟩ = some (.int .i64 k0) := by rw [← hk0, ← e0]; exact hc 0 (by omega)
  have a1 : W.cell? ⟨b, off + 1, none⟩ = some (.int .i64 k1) := by rw [← hk1, ← e1]; exact hc 1 (by omega)
  have a2 : W.cell? ⟨b, off + 2, none⟩ = some (.int .i64 k2) := by rw [← hk2, ← e2]; exact hc 2 (by omega)
  have a3 : W.cell? ⟨b, off + 3, none⟩ = some (.int .i64 k3) := by rw [← s0]; exact hc 3 (by omega)
  have a4 : W.cell? ⟨b, off + 3 + 1, none⟩ = some (.int .i64 k3') := by rw [← s1]; exact hc 4 (by omega)
  have a5 : W.cell? ⟨b, off + 5, none⟩ = some c4 := by rw [← e4]; exact hc 5 (by omega)
  rcases DataW.trod_pointer Try.underlying47 t4 with ⟨hn, _⟩ | ⟨a, cs', y, n'', _, hn, _, hcs, ht⟩
  · simp only [List.cons.injEq, and_true] at hn
    refine ⟨⟨k0, k1, k2, k3, k3', 0, 0⟩, ⟨a0, a1, a2, a3, a4⟩, Or.inl ?_⟩
    rw [← hn]; exact a5
  · simp only [List.cons.injEq, and_true] at hn
    rw [Try.cells46] at hcs
    obtain ⟨_, hlen', hcell⟩ := World.cells?_some hcs
    obtain ⟨q0, q1, z0, z1⟩ := open_pair ht
    obtain ⟨d, o, spot⟩ := a
    have g0 := hcell 0 (by omega)
    have g1 := hcell 1 (by omega)
    rw [z0] at g0
    rw [z1] at g1
    have hspot : spot = none := by simpa [Addr.add] using World.cell?_spot g0
    subst hspot
    rw [add_mk] at g0 g1
    refine ⟨⟨k0, k1, k2, k3, k3', q0, q1⟩, ⟨a0, a1, a2, a3, a4⟩, Or.inr ⟨d, o, ?_, g0, g1⟩⟩
    rw [← hn]; exact a5
end

set_option maxRecDepth 100000 in
theorem whole_lifted (os : Os) (started : os.Started) (H : Type) (enc : TypeId × Value → H) :
    ReturnsInHanded {} Try.checked os 4 .any (Rows.fnAddImageUsageWholeSpec.pre6 enc Try.prog Try.f4 Rows.fnAddImageUsageWholeRow.domain false) (Rows.fnAddImageUsageWholeSpec.post enc Try.prog Try.f4 false true false false) := by
  refine returnsInHanded_of_change (C := Try.checked) own started (by kernel_rfl) Try.func4
    (ChangeSpec.witness6 (enc := enc) (C := Try.checked) false ⟨#[], #[.pointer none, .pointer none], []⟩ 8 (by kernel_rfl) (by kernel_rfl) (by kernel_rfl) (by kernel_rfl)) ?_
  intro W base args ds gs before hval0 hW hcnd _
  have hval : ∀ (j : Nat) t v, Try.f4.params[j]? = some t → args[j]? = some v → Value.okWide Try.prog W .any base t v := hval0
  have hW' := hW
  obtain ⟨p, q, hA0, hV, rfl, hfz, hnd⟩ := hW
  have hA : DataW.TrodAll enc Try.prog W 0 (fun _ => true) true Try.f4.params.toList args.toList ds p := hA0
  rw [Try.params4] at hA hval
  obtain ⟨v0, vs0, d0, ds0, p0, q0, hargs, rfl, rfl, h0, r0⟩ := trodAll_cons hA
  obtain ⟨v1, vs1, d1, ds1, p1, q1, rfl, rfl, rfl, h1, r1⟩ := trodAll_cons r0
  obtain ⟨rfl, rfl, rfl⟩ := trodAll_nil r1
  obtain rfl : args = #[v0, v1] := by cases args; simp_all
  obtain ⟨rfl, rfl⟩ := trodVars_none hV
  have k0 := h0
  have k1 := h1
  have lt0 : ∀ x ∈ p0, x.block < W.heap.size := by obtain ⟨m, hm⟩ := k0; exact DataW.trod_lt m _ _ _ hm
  have lt1 : ∀ x ∈ p1, x.block < W.heap.size := by obtain ⟨m, hm⟩ := k1; exact DataW.trod_lt m _ _ _ hm
  have walk : Calls Try.prog 4 #[v0, v1] W fun e w' => e = .returned (.bool true) ∧ Below W.heap.size W w' := by
    rcases open_ptr Try.underlying43 (by rw [Try.cells49]; omega) (hval 0 43 v0 rfl rfl) h0 with ⟨rfl, _, _⟩ | ⟨b, off, cs, y, fuel, rfl, _, _, hlen, hcell, hy⟩
    · rcases open_ptr Try.underlying22 (by rw [Try.cells42]; omega) (hval 1 22 v1 rfl rfl) h1 with ⟨rfl, _, _⟩ | ⟨mb, mo, cs', y', fuel', rfl, _, _, hlen', hcell', hy'⟩
      · exact whole_nn W
      · rw [Try.cells42] at hcell'
        obtain ⟨m, hm, hf⟩ := open_mt hcell' hy'
        exact whole_nm mb mo m W hm hf
    · rw [Try.cells49] at hcell
      obtain ⟨u, hu, h5 | ⟨d, o, h5, h6, h7⟩⟩ := open_u hcell hy
      · rcases open_ptr Try.underlying22 (by rw [Try.cells42]; omega) (hval 1 22 v1 rfl rfl) h1 with ⟨rfl, _, _⟩ | ⟨mb, mo, cs', y', fuel', rfl, _, _, hlen', hcell', hy'⟩
        · exact whole_bn b off u W hu h5
        · rw [Try.cells42] at hcell'
          obtain ⟨m, hm, hf⟩ := open_mt hcell' hy'
          exact whole_bm b off mb mo m W h5 hm hf
      · rcases open_ptr Try.underlying22 (by rw [Try.cells42]; omega) (hval 1 22 v1 rfl rfl) h1 with ⟨rfl, _, _⟩ | ⟨mb, mo, cs', y', fuel', rfl, _, _, hlen', hcell', hy'⟩
        · exact whole_fn b off d o u W hu h5 h6 h7
        · rw [Try.cells42] at hcell'
          obtain ⟨m, hm, hf⟩ := open_mt hcell' hy'
          exact whole_fm b off d o mb mo u m W hu h5 h6 h7 hm hf
  clear hA0 hval0
  refine walk.mono fun e W' ⟨he, bel⟩ => ?_
  subst he
  exact ⟨_, rfl, _, _, _, [], _, [], hW', trodAll_mk1 (shut_bool Try.underlying4 _), (trodAll_cons_mk (Below.trod laidOut (by kernel_rfl) (of_decide_eq_true (by kernel_rfl)) k0 bel lt0) (trodAll_cons_mk (Below.trod laidOut (by kernel_rfl) (of_decide_eq_true (by kernel_rfl)) k1 bel lt1) trodAll_mk0)), rfl, bel.frame _, fun h => by cases h⟩

theorem whole_over : Rows.fnAddImageUsageWholeRow.holds Try.pinned (OpenSpec.ofChange Rows.fnAddImageUsageWholeSpec) :=
  OpenClaim.holds_of_wide 4 Try.f4 rfl rfl rfl rfl rfl rfl rfl ⟨rfl, rfl, rfl, rfl, rfl⟩ rfl rfl rfl rfl rfl (by kernel_rfl) Try.func4 (by kernel_rfl)
    (of_decide_eq_true (by kernel_rfl)) (by unfold Func.isWrapper; first | (rw [if_pos (by decide +kernel)]; kernel_rfl) | (rw [if_neg (by decide +kernel)]; exact ⟨rfl, rfl⟩))
    (fun os started H enc _ => whole_lifted os started H enc)

theorem whole_proved : Rows.FnAddImageUsageWholeSaid := whole_over
end Go.Proofs.Qxb6604298a
