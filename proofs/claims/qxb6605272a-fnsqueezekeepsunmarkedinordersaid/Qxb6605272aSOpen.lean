import Derived.Test.Qxb6605272aOpen
import Derived.Test.Qxb6605272aSr
/-! What five argument slices say of the cells. -/
namespace Go.Proofs.Qxb6605272a
open Go.ChangeShapes Go.WideShapes Go.ChangeAt Go.RowKit Go.Deep

variable {H : Type} {enc : TypeId × Value → H} {W : World} {base : Nat} {spare : Nat → Bool} {held : Bool}

theorem open_vec {t e : TypeId} {fuel : Nat} {a : Option Addr} {len cap : Nat} {x : DataW H × List MemPlace} (ht : Try.prog.underlying t = some (.slice e)) (hc : Try.prog.cellsOf e = 1)
    (h : DataW.trod enc Try.prog W base spare held fuel t [.slice a len cap] = some x) :
    ∃ (V : Nat → Value) (n : Nat) , Vec W a len V ∧ ∀ i, i < len → ∃ y, DataW.trod enc Try.prog W base spare held n e [V i] = some y := by
  rcases open_slice1 ht hc h with ⟨hcs, _⟩ | ⟨a', len', cap', m, n, V, D, Pl, hcs, _, hl, hmx, hm, _, hx⟩
  · simp at hcs
    exact ⟨fun _ => .bool false, 0, Or.inl hcs.2.1, fun i hi => by omega⟩
  simp at hcs
  obtain ⟨rfl, rfl, rfl⟩ := hcs
  rcases Nat.eq_zero_or_pos len with rfl | hpos
  · exact ⟨fun _ => .bool false, 0, Or.inl rfl, fun i hi => by omega⟩
  have hlm : len ≤ m := by rw [hm]; split <;> omega
  obtain ⟨b, off, spot⟩ := a'
  have hspot : spot = none := by
    have h4 := (hx 0 (by omega)).1
    simpa [Addr.add] using World.cell?_spot h4
  subst hspot
  refine ⟨V, n, Or.inr ⟨b, off, rfl, fun i hi => ?_⟩, fun i hi => ⟨_, (hx i (by omega)).2⟩⟩
  have := (hx i (by omega)).1
  rwa [add_mk] at this

theorem Vec.congr {a : Option Addr} {n : Nat} {f g : Nat → Value} (h : Vec W a n f) (e : ∀ i, i < n → f i = g i) : Vec W a n g := by
  rcases h with h | ⟨b, off, ha, hc⟩
  · exact Or.inl h
  · exact Or.inr ⟨b, off, ha, fun i hi => e i hi ▸ hc i hi⟩

theorem open_ivec {t e : TypeId} {k : IntKind} {fuel : Nat} {a : Option Addr} {len cap : Nat} {x : DataW H × List MemPlace} (ht : Try.prog.underlying t = some (.slice e)) (he : Try.prog.underlying e = some (.int k)) (hc : Try.prog.cellsOf e = 1)
    (h : DataW.trod enc Try.prog W base spare held fuel t [.slice a len cap] = some x) : ∃ f : Nat → Int, Vec W a len (fun i => .int k (f i)) := by
  obtain ⟨V, n, hv, hy⟩ := open_vec ht hc h
  obtain ⟨f, hf⟩ := choose_lt (α := Int) (n := len) (p := fun i z => V i = .int k z) (fun i hi => by
    obtain ⟨y, h1⟩ := hy i hi
    obtain ⟨z, h2, _⟩ := DataW.trod_int he h1
    simp only [List.cons.injEq, and_true] at h2
    exact ⟨z, h2⟩)
  exact ⟨f, hv.congr hf⟩

theorem open_svec {t e : TypeId} {fuel : Nat} {a : Option Addr} {len cap : Nat} {x : DataW H × List MemPlace} (ht : Try.prog.underlying t = some (.slice e)) (he : Try.prog.underlying e = some .string) (hc : Try.prog.cellsOf e = 1)
    (h : DataW.trod enc Try.prog W base spare held fuel t [.slice a len cap] = some x) : ∃ f : Nat → ByteArray, Vec W a len (fun i => .string (f i)) := by
  obtain ⟨V, n, hv, hy⟩ := open_vec ht hc h
  haveI : Inhabited ByteArray := ⟨⟨#[]⟩⟩
  obtain ⟨f, hf⟩ := choose_lt (α := ByteArray) (n := len) (p := fun i z => V i = .string z) (fun i hi => by
    obtain ⟨y, h1⟩ := hy i hi
    obtain ⟨z, h2, _⟩ := DataW.trod_string he h1
    simp only [List.cons.injEq, and_true] at h2
    exact ⟨z, h2⟩)
  exact ⟨f, hv.congr hf⟩

/-- The five argument slices hold writes. -/
theorem open_five {x1 x2 x3 x4 x5 : DataW H × List MemPlace} {f1 f2 f3 f4 f5 : Nat} {a1 a2 a3 a4 a5 : Option Addr} {n1 n2 n3 n4 n5 c1 c2 c3 c4 c5 : Nat}
    (h1 : DataW.trod enc Try.prog W base spare held f1 48 [.slice a1 n1 c1] = some x1) (h2 : DataW.trod enc Try.prog W base spare held f2 49 [.slice a2 n2 c2] = some x2) (h3 : DataW.trod enc Try.prog W base spare held f3 49 [.slice a3 n3 c3] = some x3)
    (h4 : DataW.trod enc Try.prog W base spare held f4 50 [.slice a4 n4 c4] = some x4) (h5 : DataW.trod enc Try.prog W base spare held f5 48 [.slice a5 n5 c5] = some x5) :
    ∃ F : Nat → It, Vec W a1 n1 (fun i => .int .u64 (F i).s) ∧ Vec W a2 n2 (fun i => .string (F i).k) ∧ Vec W a3 n3 (fun i => .string (F i).v) ∧ Vec W a4 n4 (fun i => .int .u8 (F i).l) ∧ Vec W a5 n5 (fun i => .int .u64 (F i).r) := by
  obtain ⟨g1, v1⟩ := open_ivec Try.underlying48 Try.underlying23 (by kernel_rfl) h1
  obtain ⟨g2, v2⟩ := open_svec Try.underlying49 Try.underlying9 (by kernel_rfl) h2
  obtain ⟨g3, v3⟩ := open_svec Try.underlying49 Try.underlying9 (by kernel_rfl) h3
  obtain ⟨g4, v4⟩ := open_ivec Try.underlying50 Try.underlying5 (by kernel_rfl) h4
  obtain ⟨g5, v5⟩ := open_ivec Try.underlying48 Try.underlying23 (by kernel_rfl) h5
  exact ⟨fun i => ⟨g1 i, g2 i, g3 i, g4 i, g5 i⟩, v1, v2, v3, v4, v5⟩
end Go.Proofs.Qxb6605272a
