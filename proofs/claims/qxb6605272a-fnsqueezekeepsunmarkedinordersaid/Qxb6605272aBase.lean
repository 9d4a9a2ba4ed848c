import Derived.Test.Qxb6605272aRows
import Derived.WalkKit
import Derived.WalkSpells
import Derived.WalkLawsBesides
import Derived.Deep.QuietTactic
import Derived.BigQuiet
import Derived.RegionTactic
import Derived.BigRegion
import Derived.Deep.RegionHeld
import Derived.Deep.DeepCutAuto
/-! The views of memory that the laws over histories share, and small laws on worlds. -/
namespace Go.Proofs.Qxb6605272a
open Go.RowKit

theorem hide {p : Prop} (h : p) : Hid p := h
theorem unhide {p : Prop} (h : Hid p) : p := h

theorem lt_of_cell {w : World} {b o : Nat} {v : Value} (h : w.cell? ⟨b, o, none⟩ = some v) : b < w.heap.size := World.block_lt_of_cell? w ⟨b, o, none⟩ h
theorem cell_stays {B : Nat} {w w' : World} {b o : Nat} {v : Value} (hb : Below B w w') (hB : b < B) (h : w.cell? ⟨b, o, none⟩ = some v) : w'.cell? ⟨b, o, none⟩ = some v := by
  rw [hb.cell (p := ⟨b, o, none⟩) hB]; exact h
theorem cell_grown {w w' : World} {b o : Nat} {v : Value} (hb : Below w.heap.size w w') (h : w.cell? ⟨b, o, none⟩ = some v) : w'.cell? ⟨b, o, none⟩ = some v :=
  cell_stays hb (lt_of_cell h) h
theorem below_dN (w : World) (n : Nat) : Below w.heap.size w (w.drewN n) := ⟨rfl, rfl, rfl, Nat.le_refl _, fun _ _ => rfl⟩

/-- Outside the blocks of X the world w' is as w was; the streams are as they were; no block has gone. -/
structure Fr (X : List Nat) (w w' : World) : Prop where
  os : w'.os = w.os
  tape : w'.tape = w.tape
  output : w'.output = w.output
  size : w.heap.size ≤ w'.heap.size
  block : ∀ k, k < w.heap.size → k ∉ X → w'.heap[k]? = w.heap[k]?

theorem Fr.refl (X : List Nat) (w : World) : Fr X w w := ⟨rfl, rfl, rfl, Nat.le_refl _, fun _ _ _ => rfl⟩
theorem Fr.trans {X : List Nat} {a b c : World} (h : Fr X a b) (k : Fr X b c) : Fr X a c :=
  ⟨k.os.trans h.os, k.tape.trans h.tape, k.output.trans h.output, Nat.le_trans h.size k.size, fun i hi hx => (k.block i (Nat.lt_of_lt_of_le hi h.size) hx).trans (h.block i hi hx)⟩
theorem Fr.mono {X Y : List Nat} {a b : World} (h : Fr X a b) (hs : ∀ k, k ∈ X → k ∈ Y) : Fr Y a b := ⟨h.os, h.tape, h.output, h.size, fun k hk hx => h.block k hk (fun hh => hx (hs k hh))⟩
theorem Fr.of_below {X : List Nat} {a b : World} (h : Below a.heap.size a b) : Fr X a b := ⟨h.os, h.tape, h.output, h.size, fun k hk _ => h.block k hk⟩
theorem Fr.below {X : List Nat} {a b : World} (h : Fr X a b) {B : Nat} (hB : B ≤ a.heap.size) (hX : ∀ k, k ∈ X → B ≤ k) : Below B a b := ⟨h.os, h.tape, h.output, h.size, fun k hk => h.block k (by omega) (fun hx => by have := hX k hx; omega)⟩
theorem Fr.drew {X : List Nat} {a b : World} (h : Fr X a b) : Fr X a b.drew := ⟨h.os, h.tape, h.output, h.size, h.block⟩
theorem Fr.setCell {X : List Nat} {a b : World} (h : Fr X a b) {p : Addr} (hp : p.block ∈ X) (u : Value) : Fr X a (b.setCell p u) :=
  h.trans ⟨rfl, rfl, rfl, by simp [World.setCell], fun k _ hx => Below.heap_setCell _ _ _ _ (fun e => hx (e ▸ hp))⟩
theorem Fr.alloc {X : List Nat} {a b : World} (h : Fr X a b) (o : Obj) : Fr X a (b.alloc o) :=
  h.trans ⟨rfl, rfl, rfl, by simp, fun k hk _ => Below.heap_alloc _ _ _ hk⟩
theorem Fr.cell {X : List Nat} {a b : World} (h : Fr X a b) {k o : Nat} (hk : k < a.heap.size) (hx : k ∉ X) : b.cell? ⟨k, o, none⟩ = a.cell? ⟨k, o, none⟩ := World.cell?_of_block (w := a) (h.block k hk hx)
theorem Fr.frozen {X : List Nat} {a b : World} (h : Fr X a b) {k o : Nat} (hk : k < a.heap.size) (hx : k ∉ X) : b.frozen? ⟨k, o, none⟩ = a.frozen? ⟨k, o, none⟩ := World.frozen?_of_block (w := a) (h.block k hk hx)

/-- A history: the branches' ids and where they begin. -/
abbrev Hs := List (Int × Int)

/-- A slice over 'a' holds the history 'xs' (two cells an entry). -/
def Hist (w : World) (a : Option Addr) (xs : Hs) : Prop :=
  xs = [] ∨ ∃ b off, a = some ⟨b, off, none⟩ ∧ ∀ i (h : i < xs.length), w.cell? ⟨b, off + i * 2, none⟩ = some (.int .u64 xs[i].1) ∧ w.cell? ⟨b, off + i * 2 + 1, none⟩ = some (.int .u64 xs[i].2)

theorem Hist.grown {w w' : World} {a : Option Addr} {xs : Hs} (hb : Below w.heap.size w w') (h : Hist w a xs) : Hist w' a xs := by
  rcases h with h | ⟨b, off, ha, hc⟩
  · exact Or.inl h
  · exact Or.inr ⟨b, off, ha, fun i hi => ⟨cell_grown hb (hc i hi).1, cell_grown hb (hc i hi).2⟩⟩

/-- The first entry that begins before s. -/
def brId : Hs → Int → Int
  | [], _ => 0
  | e :: xs, s => if e.2 < s then e.1 else brId xs s
def brOk : Hs → Int → Bool
  | [], _ => false
  | e :: xs, s => if e.2 < s then true else brOk xs s

/-- No entry of the first k begins before s. -/
def noneUp (xs : Hs) (s : Int) (k : Nat) : Prop := ∀ i (h : i < xs.length), i < k → s ≤ xs[i].2

theorem br_hit (xs : Hs) (s : Int) (k : Nat) (hk : k < xs.length) (hn : noneUp xs s k) (h : xs[k].2 < s) : brId xs s = xs[k].1 ∧ brOk xs s = true := by
  induction xs generalizing k with
  | nil => simp at hk
  | cons e xs ih =>
    cases k with
    | zero => simp at h; simp [brId, brOk, h]
    | succ k =>
      have h0 := hn 0 (by simp) (by omega)
      simp at h0
      have hk' : k < xs.length := by simpa using hk
      have := ih k hk' (fun i hi hik => by have := hn (i + 1) (by simpa using hi) (by omega); simpa using this) (by simpa using h)
      simp only [brId, brOk, if_neg (show ¬ e.2 < s by omega), List.getElem_cons_succ]
      exact this

theorem br_miss (xs : Hs) (s : Int) (hn : noneUp xs s xs.length) : brId xs s = 0 ∧ brOk xs s = false := by
  induction xs with
  | nil => simp [brId, brOk]
  | cons e xs ih =>
    have h0 := hn 0 (by simp) (by simp)
    simp at h0
    have := ih (fun i hi _ => by have := hn (i + 1) (by simpa using hi) (by simpa using hi); simpa using this)
    simp only [brId, brOk, if_neg (show ¬ e.2 < s by omega)]
    exact this

end Go.Proofs.Qxb6605272a
