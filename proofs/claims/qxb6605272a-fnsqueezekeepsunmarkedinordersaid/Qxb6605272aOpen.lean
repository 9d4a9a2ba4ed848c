import Derived.Test.Qxb6605272aBase
import Derived.ProofKit
import Derived.OpenShut
import Derived.ShutString
import Derived.ChangeOld
import Derived.Below
import Derived.Deep.Slices
/-! What an argument's reading as data says of the cells; and two closed facts that every proof's frame wants. -/
namespace Go.Proofs.Qxb6605272a
open Go.ChangeShapes Go.WideShapes Go.ChangeAt Go.RowKit Go.Deep

theorem own : ownKnob Try.prog.godebug = none := by kernel_rfl
theorem laidOut : laidOutB Try.prog = true := by kernel_rfl
theorem Try.cells23 : Try.prog.cellsOf 23 = 1 := by kernel_rfl
theorem Try.cells34 : Try.prog.cellsOf 34 = 2 := by kernel_rfl

section
variable {H : Type} {enc : TypeId × Value → H} {P : Program} {w : World} {base : Nat} {spare : Nat → Bool} {held : Bool}

/-- A field of one cell. -/
theorem field1 {t : TypeId} {fs : Array Field} {fuel : Nat} {cs : List Value} {x : DataW H × List MemPlace} (ht : P.underlying t = some (.struct fs)) (h : DataW.trod enc P w base spare held fuel t cs = some x) :
    cs.length = P.cellsOf t ∧ ∃ n, ∀ (i : Nat) (f : Field), fs[i]? = some f → P.cellsOf f.type = 1 → f.offset < P.cellsOf t → ∃ c y, cs[f.offset]? = some c ∧ DataW.trod enc P w base spare held n f.type [c] = some y := by
  obtain ⟨xs, n, _, rfl, hl, hlen, hf⟩ := DataW.trod_struct ht h
  refine ⟨hl, n, fun i f hi h1 h2 => ?_⟩
  have hi' : i < xs.length := by
    rw [hlen]
    rcases Nat.lt_or_ge i fs.size with h | h
    · exact h
    · rw [Array.getElem?_eq_none h] at hi; cases hi
  have h3 := hf i f hi
  rw [h1, List.getElem?_eq_getElem hi'] at h3
  have h4 : f.offset < cs.length := by omega
  refine ⟨cs[f.offset], xs[i], List.getElem?_eq_getElem h4, ?_⟩
  rw [List.drop_eq_getElem_cons h4, List.take_succ_cons, List.take_zero] at h3
  exact h3

theorem add_mk (b off n : Nat) : (⟨b, off, none⟩ : Addr).add n = ⟨b, off + n, none⟩ := by
  unfold Addr.add
  split <;> simp_all
end

variable {H : Type} {enc : TypeId × Value → H} {W : World} {base : Nat} {spare : Nat → Bool} {held : Bool}

theorem open_hist {fuel : Nat} {a : Option Addr} {len cap : Nat} {x : DataW H × List MemPlace} (h : DataW.trod enc Try.prog W base spare held fuel 22 [.slice a len cap] = some x) :
    ∃ xs : Hs, len = xs.length ∧ len ≤ 9223372036854775807 ∧ Hist W a xs ∧ ∀ i (h : i < xs.length), 0 ≤ xs[i].2 ∧ xs[i].2 ≤ 18446744073709551615 := by
  rcases open_slice Try.underlying22 h with ⟨hcs, _⟩ | ⟨a', len', cap', m, n, D, Pl, hcs, _, hl, hmx, hm, _, hx⟩
  · simp at hcs
    exact ⟨[], by simp [hcs.2.1], by omega, Or.inl rfl, fun i hi => by simp at hi⟩
  simp at hcs
  obtain ⟨rfl, rfl, rfl⟩ := hcs
  unfold maxLen at hmx
  rcases Nat.eq_zero_or_pos len with rfl | hpos
  · exact ⟨[], rfl, by omega, Or.inl rfl, fun i hi => by simp at hi⟩
  have hlm : len ≤ m := by rw [hm]; split <;> omega
  obtain ⟨b, off, spot⟩ := a'
  have hspot : spot = none := by
    obtain ⟨cs', h1, _⟩ := hx 0 (by omega)
    obtain ⟨_, h2, h3⟩ := World.cells?_some h1
    have h4 := h3 0 (by rw [Try.cells34]; omega)
    rw [List.getElem?_eq_getElem (by rw [h2, Try.cells34]; omega)] at h4
    simpa [Addr.add] using World.cell?_spot h4
  subst hspot
  have key : ∀ i, i < len → ∃ p : Int × Int, (W.cell? ⟨b, off + i * 2, none⟩ = some (.int .u64 p.1) ∧ W.cell? ⟨b, off + i * 2 + 1, none⟩ = some (.int .u64 p.2)) ∧ 0 ≤ p.2 ∧ p.2 ≤ 18446744073709551615 := by
    intro i hi
    obtain ⟨cs', h1, h2⟩ := hx i (by omega)
    rw [Try.cells34, add_mk] at h1
    obtain ⟨_, h3, h4⟩ := World.cells?_some h1
    obtain ⟨_, n', hf⟩ := field1 Try.underlying34 h2
    obtain ⟨c0, y0, e0, t0⟩ := hf 0 _ rfl Try.cells23 (by rw [Try.cells34]; decide)
    obtain ⟨c1, y1, e1, t1⟩ := hf 1 _ rfl Try.cells23 (by rw [Try.cells34]; decide)
    obtain ⟨s, hs, _, _⟩ := DataW.trod_int Try.underlying23 t0
    obtain ⟨k, hk, _, wk⟩ := DataW.trod_int Try.underlying23 t1
    simp only [List.cons.injEq, and_true] at hs hk
    have g0 := h4 0 (by omega)
    have g1 := h4 1 (by omega)
    rw [add_mk] at g0 g1
    have bk := bounds_u64 wk
    refine ⟨(s, k), ⟨?_, ?_⟩, by dsimp only; omega, by dsimp only; omega⟩
    · rw [← hs, ← e0]; exact g0
    · rw [← hk, ← e1]; exact g1
  obtain ⟨f, hf⟩ := choose_lt key
  have hlen : ((List.range len).map f).length = len := by simp
  refine ⟨(List.range len).map f, hlen.symm, by omega, Or.inr ⟨b, off, rfl, fun i hi => ?_⟩, fun i hi => ?_⟩
  · have hi' : i < len := by simpa using hi
    simp only [List.getElem_map, List.getElem_range]
    exact (hf i hi').1
  · have hi' : i < len := by simpa using hi
    simp only [List.getElem_map, List.getElem_range]
    exact (hf i hi').2

end Go.Proofs.Qxb6605272a
