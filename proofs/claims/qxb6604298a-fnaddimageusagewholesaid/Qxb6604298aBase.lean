import Derived.Test.Qxb6604298aRows
import Derived.WalkKit
import Derived.WalkSpells
import Derived.WalkLawsBesides
import Derived.Deep.QuietTactic
import Derived.BigQuiet
/-! The views of memory that all four laws of this seat share, and the plain functions. -/
namespace Go.Proofs.Qxb6604298a
open Go.RowKit

/-- The details of one kind: the modality's bytes and the count. -/
abbrev Ds := List (ByteArray × Int)

/-- A slice over 'a' holds the details 'xs' (two cells an element). -/
def Det (w : World) (a : Option Addr) (xs : Ds) : Prop :=
  xs = [] ∨ ∃ b off, a = some ⟨b, off, none⟩ ∧ ∀ i (h : i < xs.length), w.cell? ⟨b, off + i * 2, none⟩ = some (.string xs[i].1) ∧ w.cell? ⟨b, off + i * 2 + 1, none⟩ = some (.int .i64 xs[i].2)

/-- One metadata: four counts, and two slices of details (their base, their capacity, what they hold). -/
structure Mt where
  p : Int
  c : Int
  t : Int
  s : Int
  pa : Option Addr
  pc : Nat
  pd : Ds
  ca : Option Addr
  cc : Nat
  cd : Ds

/-- The metadata 'm' lies at block b from cell off on. -/
structure MtAt (w : World) (b off : Nat) (m : Mt) : Prop where
  p : w.cell? ⟨b, off, none⟩ = some (.int .i64 m.p)
  c : w.cell? ⟨b, off + 1, none⟩ = some (.int .i64 m.c)
  t : w.cell? ⟨b, off + 2, none⟩ = some (.int .i64 m.t)
  s : w.cell? ⟨b, off + 3, none⟩ = some (.int .i64 m.s)
  pv : w.cell? ⟨b, off + 4, none⟩ = some (.slice m.pa m.pd.length m.pc)
  cv : w.cell? ⟨b, off + 5, none⟩ = some (.slice m.ca m.cd.length m.cc)
  pd : Det w m.pa m.pd
  cd : Det w m.ca m.cd

/-- A number that fits an int. -/
def Fit (n : Int) : Prop := -9223372036854775808 ≤ n ∧ n ≤ 9223372036854775807

/-- The numbers of a metadata fit an int. -/
structure MtFit (m : Mt) : Prop where
  p : Fit m.p
  c : Fit m.c
  t : Fit m.t
  s : Fit m.s

/-- .. and its details are few. -/
structure MtOk (m : Mt) : Prop where
  p : Fit m.p
  c : Fit m.c
  t : Fit m.t
  s : Fit m.s
  pl : m.pd.length * 24 ≤ 140737488351232
  cl : m.cd.length * 24 ≤ 140737488351232

/-- Is this the wire word of images? -/
def isImg (s : ByteArray) : Bool := s.toList == [73, 77, 65, 71, 69]

/-- The image tokens of a list of details, as a whole number: no wrap. -/
def isum : Ds → Int
  | [] => 0
  | x :: xs => (if isImg x.1 = true then x.2 else 0) + isum xs

theorem isum_append (xs ys : Ds) : isum (xs ++ ys) = isum xs + isum ys := by
  induction xs with
  | nil => simp [isum]
  | cons x xs ih => simp only [List.cons_append, isum, ih]; omega

theorem isum_snoc (xs : Ds) (k : Nat) (h : k < xs.length) : isum (xs.take (k + 1)) = isum (xs.take k) + (if isImg xs[k].1 = true then xs[k].2 else 0) := by
  rw [List.take_succ_eq_append_getElem h, isum_append]; simp [isum]

theorem wrap64_zero : wrap64 0 = 0 := by unfold wrap64; omega
theorem wrap64_wadd (a b : Int) : wrap64 (wrap64 a + b) = wrap64 (a + b) := by unfold wrap64; omega
theorem wrap64_addw (a b : Int) : wrap64 (a + wrap64 b) = wrap64 (a + b) := by unfold wrap64; omega
theorem wrap64_wsub (a b : Int) : wrap64 (wrap64 a - b) = wrap64 (a - b) := by unfold wrap64; omega
theorem wrap64_subw (a b : Int) : wrap64 (a - wrap64 b) = wrap64 (a - b) := by unfold wrap64; omega
theorem wrap64_fit {a : Int} (h : Fit a) : wrap64 a = a := by unfold Fit at h; unfold wrap64; omega

theorem ret_int {k : IntKind} {a b : Int} (h : a = b) : Ending.returned (.int k a) = .returned (.int k b) := by rw [h]

theorem hide {p : Prop} (h : p) : Hid p := h
theorem unhide {p : Prop} (h : Hid p) : p := h

/-! ### Memory that stays -/
theorem lt_of_cell {w : World} {b o : Nat} {v : Value} (h : w.cell? ⟨b, o, none⟩ = some v) : b < w.heap.size := World.block_lt_of_cell? w ⟨b, o, none⟩ h

theorem bcell {W w1 : World} (hb : Below W.heap.size W w1) : (∀ b o, b < W.heap.size → w1.cell? ⟨b, o, none⟩ = W.cell? ⟨b, o, none⟩) ∧ (∀ b o, b < W.heap.size → w1.frozen? ⟨b, o, none⟩ = W.frozen? ⟨b, o, none⟩) :=
  ⟨fun b o h => hb.cell (p := ⟨b, o, none⟩) h, fun b o h => hb.frozen (p := ⟨b, o, none⟩) h⟩

/-- Outside the blocks of X the world w' is as w was; the streams are as they were; no block has gone. -/
structure Fr (X : List Nat) (w w' : World) : Prop where
  os : w'.os = w.os
  tape : w'.tape = w.tape
  output : w'.output = w.output
  size : w.heap.size ≤ w'.heap.size
  block : ∀ k, k < w.heap.size → k ∉ X → w'.heap[k]? = w.heap[k]?

theorem Fr.refl (X : List Nat) (w : World) : Fr X w w := ⟨rfl, rfl, rfl, Nat.le_refl _, fun _ _ _ => rfl⟩
theorem Fr.trans {X : List Nat} {a b c : World} (h : Fr X a b) (k : Fr X b c) : Fr X a c :=
  ⟨k.os.trans h.os, k.tape.trans h.tape, k.output.trans h.output, Nat.le_trans h.size k.size, fun i hi hx => (k.block i (Nat.lt_of_lt_of_le hi h.size) hx).trans (h.block i hi hx)⟩
theorem Fr.mono {X Y : List Nat} {a b : World} (h : Fr X a b) (hs : ∀ k, k ∈ X → k ∈ Y) : Fr Y a b := ⟨h.os, h.tape, h.output, h.size, fun k hk hx => h.block k hk (fun hh => hx (hs k hh))⟩
theorem Fr.of_below {X : List Nat} {a b : World} (h : Below a.heap.size a b) : Fr X a b := ⟨h.os, h.tape, h.output, h.size, fun k hk _ => h.block k hk⟩
theorem Fr.below {X : List Nat} {a b : World} (h : Fr X a b) {B : Nat} (hB : B ≤ a.heap.size) (hX : ∀ k, k ∈ X → B ≤ k) : Below B a b := ⟨h.os, h.tape, h.output, h.size, fun k hk => h.block k (by omega) (fun hx => by have := hX k hx; omega)⟩
theorem Fr.drew {X : List Nat} {a b : World} (h : Fr X a b) : Fr X a b.drew := ⟨h.os, h.tape, h.output, h.size, h.block⟩
theorem Fr.drewN {X : List Nat} {a b : World} (h : Fr X a b) (n : Nat) : Fr X a (b.drewN n) := ⟨h.os, h.tape, h.output, h.size, h.block⟩
theorem Fr.setCell {X : List Nat} {a b : World} (h : Fr X a b) {p : Addr} (hp : p.block ∈ X) (u : Value) : Fr X a (b.setCell p u) :=
  h.trans ⟨rfl, rfl, rfl, by simp [World.setCell], fun k _ hx => Below.heap_setCell _ _ _ _ (fun e => hx (e ▸ hp))⟩
theorem Fr.alloc {X : List Nat} {a b : World} (h : Fr X a b) (o : Obj) : Fr X a (b.alloc o) :=
  h.trans ⟨rfl, rfl, rfl, by simp, fun k hk _ => Below.heap_alloc _ _ _ hk⟩
theorem Fr.cell {X : List Nat} {a b : World} (h : Fr X a b) {k o : Nat} (hk : k < a.heap.size) (hx : k ∉ X) : b.cell? ⟨k, o, none⟩ = a.cell? ⟨k, o, none⟩ := World.cell?_of_block (w := a) (h.block k hk hx)
theorem Fr.frozen {X : List Nat} {a b : World} (h : Fr X a b) {k o : Nat} (hk : k < a.heap.size) (hx : k ∉ X) : b.frozen? ⟨k, o, none⟩ = a.frozen? ⟨k, o, none⟩ := World.frozen?_of_block (w := a) (h.block k hk hx)

/-- Block b is a plain row of cells: nothing of it is frozen. -/
def Own (w : World) (b : Nat) : Prop := ∃ cs t, w.heap[b]? = some (.cells cs t (0, 0))
theorem Own.grown {w w' : World} {b : Nat} (hb : Below w.heap.size w w') (h : Own w b) : Own w' b := by
  obtain ⟨cs, t, h⟩ := h
  have hlt : b < w.heap.size := by
    rcases Nat.lt_or_ge b w.heap.size with k | k
    · exact k
    · rw [Array.getElem?_eq_none k] at h; cases h
  exact ⟨cs, t, by rw [hb.block b hlt]; exact h⟩
theorem Own.keep {X : List Nat} {w w' : World} {b : Nat} (hf : Fr X w w') (hX : b ∉ X) (h : Own w b) : Own w' b := by
  obtain ⟨cs, t, h⟩ := h
  have hlt : b < w.heap.size := by
    rcases Nat.lt_or_ge b w.heap.size with k | k
    · exact k
    · rw [Array.getElem?_eq_none k] at h; cases h
  exact ⟨cs, t, by rw [hf.block b hlt hX]; exact h⟩
theorem Own.setCell {w : World} {b : Nat} (h : Own w b) (g i : Nat) (v : Value) : Own (w.setCell ⟨g, i, none⟩ v) b := by
  obtain ⟨cs, t, h⟩ := h
  by_cases e : b = g
  · subst e; exact ⟨_, t, heap_setCell_same w b i cs t v h⟩
  · exact ⟨cs, t, by rw [heap_setCell_other _ _ _ _ e]; exact h⟩
theorem Own.drew {w : World} {b : Nat} (h : Own w b) : Own w.drew b := h
theorem Own.new (w : World) (cs : Array Value) (t : TypeId) : Own (w.alloc (.cells cs t)) w.heap.size := ⟨cs, t, by show (w.heap.push _)[w.heap.size]? = _; simp⟩

/-- A view of cells that all stand below B stays over 'Below B'. -/
theorem cell_stays {B : Nat} {w w' : World} {b o : Nat} {v : Value} (hb : Below B w w') (hB : b < B) (h : w.cell? ⟨b, o, none⟩ = some v) : w'.cell? ⟨b, o, none⟩ = some v := by
  rw [hb.cell (p := ⟨b, o, none⟩) hB]; exact h

/-- .. over a world that has only grown. -/
theorem cell_grown {w w' : World} {b o : Nat} {v : Value} (hb : Below w.heap.size w w') (h : w.cell? ⟨b, o, none⟩ = some v) : w'.cell? ⟨b, o, none⟩ = some v :=
  cell_stays hb (lt_of_cell h) h

theorem Det.grown {w w' : World} {a : Option Addr} {xs : Ds} (hb : Below w.heap.size w w') (h : Det w a xs) : Det w' a xs := by
  rcases h with h | ⟨b, off, ha, hc⟩
  · exact Or.inl h
  · exact Or.inr ⟨b, off, ha, fun i hi => ⟨cell_grown hb (hc i hi).1, cell_grown hb (hc i hi).2⟩⟩

theorem MtAt.grown {w w' : World} {b off : Nat} {m : Mt} (hb : Below w.heap.size w w') (h : MtAt w b off m) : MtAt w' b off m :=
  ⟨cell_grown hb h.p, cell_grown hb h.c, cell_grown hb h.t, cell_grown hb h.s, cell_grown hb h.pv, cell_grown hb h.cv, h.pd.grown hb, h.cd.grown hb⟩

end Go.Proofs.Qxb6604298a
