import Derived.Test.Qxb6604298aBase
import Derived.ProofKit
import Derived.OpenShut
import Derived.ChangeOld
import Derived.Deep.Slices
/-! What an argument's reading as data says of the cells. -/
namespace Go.Proofs.Qxb6604298a
open Go.ChangeShapes Go.WideShapes Go.ChangeAt Go.RowKit Go.Deep

theorem Try.cells3 : Try.prog.cellsOf 3 = 1 := by kernel_rfl
theorem Try.cells9 : Try.prog.cellsOf 9 = 1 := by kernel_rfl
theorem Try.cells40 : Try.prog.cellsOf 40 = 1 := by kernel_rfl
theorem Try.cells42 : Try.prog.cellsOf 42 = 6 := by kernel_rfl
theorem Try.cells67 : Try.prog.cellsOf 67 = 2 := by kernel_rfl

section
variable {H : Type} {enc : TypeId × Value → H} {P : Program} {w : World} {base : Nat} {spare : Nat → Bool} {held : Bool}

/-- A field of one cell. -/
theorem field1 {t : TypeId} {fs : Array Field} {fuel : Nat} {cs : List Value} {x : DataW H × List MemPlace} (ht : P.underlying t = some (.struct fs)) (h : DataW.trod enc P w base spare held fuel t cs = some x) :
    cs.length = P.cellsOf t ∧ ∃ n, ∀ (i : Nat) (f : Field), fs[i]? = some f → P.cellsOf f.type = 1 → f.offset < P.cellsOf t → ∃ c y, cs[f.offset]? = some c ∧ DataW.trod enc P w base spare held n f.type [c] = some y := by
  obtain ⟨xs, n, _, rfl, hl, hlen, hf⟩ := DataW.trod_struct ht h
  refine ⟨hl, n, fun i f hi h1 h2 => ?_⟩
  have hi' : i < xs.length := by
    rw [hlen]
    rcases Nat.lt_or_ge i fs.size with h | h
    · exact h
    · rw [Array.getElem?_eq_none h] at hi; cases hi
  have h3 := hf i f hi
  rw [h1, List.getElem?_eq_getElem hi'] at h3
  have h4 : f.offset < cs.length := by omega
  refine ⟨cs[f.offset], xs[i], List.getElem?_eq_getElem h4, ?_⟩
  rw [List.drop_eq_getElem_cons h4, List.take_succ_cons, List.take_zero] at h3
  exact h3

theorem add_mk (b off n : Nat) : (⟨b, off, none⟩ : Addr).add n = ⟨b, off + n, none⟩ := by
  unfold Addr.add
  split <;> simp_all

theorem fit_of_wf {n : Int} (h : (Lit.int .i64 n).wf = true) : Fit n := by
  have := bounds_i64 h
  unfold Fit
  omega
end

variable {H : Type} {enc : TypeId × Value → H} {W : World} {base : Nat} {spare : Nat → Bool} {held : Bool}

/-- The details of one metadata. -/
theorem open_det {fuel : Nat} {cs : List Value} {x : DataW H × List MemPlace} (h : DataW.trod enc Try.prog W base spare held fuel 40 cs = some x) :
    ∃ (a : Option Addr) (cap : Nat) (xs : Ds), cs = [.slice a xs.length cap] ∧ Det W a xs := by
  rcases open_slice Try.underlying40 h with ⟨rfl, _⟩ | ⟨a, len, cap, m, n, D, Pl, rfl, _, hl, _, hm, _, hx⟩
  · exact ⟨none, 0, [], rfl, Or.inl rfl⟩
  rcases Nat.eq_zero_or_pos len with rfl | hpos
  · exact ⟨some a, cap, [], rfl, Or.inl rfl⟩
  have hlm : len ≤ m := by rw [hm]; split <;> omega
  obtain ⟨b, off, spot⟩ := a
  have hspot : spot = none := by
    obtain ⟨cs', h1, _⟩ := hx 0 (by omega)
    obtain ⟨_, h2, h3⟩ := World.cells?_some h1
    have h4 := h3 0 (by rw [Try.cells67]; omega)
    rw [List.getElem?_eq_getElem (by rw [h2, Try.cells67]; omega)] at h4
    simpa [Addr.add] using World.cell?_spot h4
  subst hspot
  have key : ∀ i, i < len → ∃ p : ByteArray × Int, W.cell? ⟨b, off + i * 2, none⟩ = some (.string p.1) ∧ W.cell? ⟨b, off + i * 2 + 1, none⟩ = some (.int .i64 p.2) := by
    intro i hi
    obtain ⟨cs', h1, h2⟩ := hx i (by omega)
    rw [Try.cells67, add_mk] at h1
    obtain ⟨_, h3, h4⟩ := World.cells?_some h1
    obtain ⟨_, n', hf⟩ := field1 Try.underlying67 h2
    obtain ⟨c0, y0, e0, t0⟩ := hf 0 _ rfl Try.cells9 (by rw [Try.cells67]; exact Nat.zero_lt_succ _)
    obtain ⟨c1, y1, e1, t1⟩ := hf 1 _ rfl Try.cells3 (by rw [Try.cells67]; exact Nat.lt_succ_self _)
    obtain ⟨s, hs, _, _⟩ := DataW.trod_string Try.underlying9 t0
    obtain ⟨k, hk, _, _⟩ := DataW.trod_int Try.underlying3 t1
    simp only [List.cons.injEq, and_true] at hs hk
    have g0 := h4 0 (by omega)
    have g1 := h4 1 (by omega)
    rw [add_mk] at g0 g1
    refine ⟨(s, k), ?_, ?_⟩
    · rw [← hs, ← e0]; exact g0
    · rw [← hk, ← e1]; exact g1
  obtain ⟨f, hf⟩ := choose_lt key
  have hlen : ((List.range len).map f).length = len := by simp
  refine ⟨some ⟨b, off, none⟩, cap, (List.range len).map f, by rw [hlen], Or.inr ⟨b, off, rfl, fun i hi => ?_⟩⟩
  have hi' : i < len := by simpa using hi
  simp only [List.getElem_map, List.getElem_range]
  exact hf i hi'

/-- One metadata out of its six cells. -/
theorem open_mt {fuel b off : Nat} {cs : List Value} {x : DataW H × List MemPlace} (hc : ∀ j, j < 6 → W.cell? ⟨b, off + j, none⟩ = cs[j]?) (h : DataW.trod enc Try.prog W base spare held fuel 42 cs = some x) :
    ∃ m : Mt, MtAt W b off m ∧ MtFit m := by
  obtain ⟨_, n', hf⟩ := field1 Try.underlying42 h
  obtain ⟨c0, y0, e0, t0⟩ := hf 0 _ rfl Try.cells3 (by rw [Try.cells42]; decide)
  obtain ⟨c1, y1, e1, t1⟩ := hf 1 _ rfl Try.cells3 (by rw [Try.cells42]; decide)
  obtain ⟨c2, y2, e2, t2⟩ := hf 2 _ rfl Try.cells3 (by rw [Try.cells42]; decide)
  obtain ⟨c3, y3, e3, t3⟩ := hf 3 _ rfl Try.cells3 (by rw [Try.cells42]; decide)
  obtain ⟨c4, y4, e4, t4⟩ := hf 4 _ rfl Try.cells40 (by rw [Try.cells42]; decide)
  obtain ⟨c5, y5, e5, t5⟩ := hf 5 _ rfl Try.cells40 (by rw [Try.cells42]; decide)
  obtain ⟨k0, hk0, _, w0⟩ := DataW.trod_int Try.underlying3 t0
  obtain ⟨k1, hk1, _, w1⟩ := DataW.trod_int Try.underlying3 t1
  obtain ⟨k2, hk2, _, w2⟩ := DataW.trod_int Try.underlying3 t2
  obtain ⟨k3, hk3, _, w3⟩ := DataW.trod_int Try.underlying3 t3
  obtain ⟨pa, pc, pd, hp, dp⟩ := open_det t4
  obtain ⟨ca, cc, cd, hcc, dc⟩ := open_det t5
  simp only [List.cons.injEq, and_true] at hk0 hk1 hk2 hk3 hp hcc
  refine ⟨⟨k0, k1, k2, k3, pa, pc, pd, ca, cc, cd⟩, ⟨?_, ?_, ?_, ?_, ?_, ?_, dp, dc⟩, ⟨fit_of_wf w0, fit_of_wf w1, fit_of_wf w2, fit_of_wf w3⟩⟩
  · rw [← hk0, ← e0]; exact hc 0 (by omega)
  · rw [← hk1, ← e1]; exact hc 1 (by omega)
  · rw [← hk2, ← e2]; exact hc 2 (by omega)
  · rw [← hk3, ← e3]; exact hc 3 (by omega)
  · rw [← hp, ← e4]; exact hc 4 (by omega)
  · rw [← hcc, ← e5]; exact hc 5 (by omega)

/-- A list of metadata. -/
theorem open_ms {fuel : Nat} {a : Option Addr} {len cap : Nat} {x : DataW H × List MemPlace} (h : DataW.trod enc Try.prog W base spare held fuel 59 [.slice a len cap] = some x) :
    len = 0 ∨ ∃ (b off : Nat) (ms : List Mt), a = some ⟨b, off, none⟩ ∧ len = ms.length ∧ len ≤ 9223372036854775807 ∧ ∀ i (h : i < ms.length), MtAt W b (off + i * 6) ms[i] ∧ MtFit ms[i] := by
  rcases open_slice Try.underlying59 h with ⟨hcs, _⟩ | ⟨a', len', cap', m, n, D, Pl, hcs, _, hl, hmx, hm, _, hx⟩
  · simp at hcs
    exact Or.inl hcs.2.1
  simp at hcs
  obtain ⟨rfl, rfl, rfl⟩ := hcs
  rcases Nat.eq_zero_or_pos len with rfl | hpos
  · exact Or.inl rfl
  right
  have hlm : len ≤ m := by rw [hm]; split <;> omega
  obtain ⟨b, off, spot⟩ := a'
  have hspot : spot = none := by
    obtain ⟨cs', h1, _⟩ := hx 0 (by omega)
    obtain ⟨_, h2, h3⟩ := World.cells?_some h1
    have h4 := h3 0 (by rw [Try.cells42]; omega)
    rw [List.getElem?_eq_getElem (by rw [h2, Try.cells42]; omega)] at h4
    simpa [Addr.add] using World.cell?_spot h4
  subst hspot
  have key : ∀ i, i < len → ∃ m : Mt, MtAt W b (off + i * 6) m ∧ MtFit m := by
    intro i hi
    obtain ⟨cs', h1, h2⟩ := hx i (by omega)
    rw [Try.cells42, add_mk] at h1
    obtain ⟨_, h3, h4⟩ := World.cells?_some h1
    exact open_mt (fun j hj => by have := h4 j hj; rwa [add_mk] at this) h2
  have key' : ∃ f : Nat → Mt, ∀ i, i < len → MtAt W b (off + i * 6) (f i) ∧ MtFit (f i) := by
    classical
    refine ⟨fun i => if hi : i < len then Classical.choose (key i hi) else ⟨0, 0, 0, 0, none, 0, [], none, 0, []⟩, fun i hi => ?_⟩
    simp only [dif_pos hi]
    exact Classical.choose_spec (key i hi)
  obtain ⟨f, hf⟩ := key'
  have hlen : ((List.range len).map f).length = len := by simp
  unfold maxLen at hmx
  refine ⟨b, off, (List.range len).map f, rfl, hlen.symm, by omega, fun i hi => ?_⟩
  have hi' : i < len := by simpa using hi
  simp only [List.getElem_map, List.getElem_range]
  exact hf i hi'

end Go.Proofs.Qxb6604298a
