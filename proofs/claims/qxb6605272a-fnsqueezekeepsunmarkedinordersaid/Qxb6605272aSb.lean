import Derived.Test.Qxb6605272aBase
import Derived.Lib.SliceRun
/-! Views of memory for the laws over squeeze; (*SettledWrites).at (36). -/
namespace Go.Proofs.Qxb6605272a
open Go.RowKit
set_option maxHeartbeats 1000000
set_option linter.unusedSimpArgs false

/-- A write. -/
structure It where
  s : Int
  k : ByteArray
  v : ByteArray
  l : Int
  r : Int

def It.zero : It := ⟨0, ⟨#[]⟩, ⟨#[]⟩, 0, 0⟩

/-- It lies in block B from cell i on. -/
structure ItAt (w : World) (B i : Nat) (t : It) : Prop where
  s : w.cell? ⟨B, i, none⟩ = some (.int .u64 t.s)
  k : w.cell? ⟨B, i + 1, none⟩ = some (.string t.k)
  v : w.cell? ⟨B, i + 2, none⟩ = some (.string t.v)
  l : w.cell? ⟨B, i + 3, none⟩ = some (.int .u8 t.l)
  r : w.cell? ⟨B, i + 4, none⟩ = some (.int .u64 t.r)

/-- How many chunks n writes take; how long chunk j is. -/
def kk (n : Nat) : Nat := (n + 1023) / 1024
def clen (n j : Nat) : Nat := min 1024 (n - 1024 * j)

theorem kk_lt {n p : Nat} (h : p < n) : p / 1024 < kk n := by unfold kk; omega
theorem clen_lt {n p : Nat} (h : p < n) : p % 1024 < clen n (p / 1024) := by unfold clen; omega

theorem at_any (sb OB oc p n : Nat) (cb cp : Nat → Nat) (w : World) (hp : p < n) (hn : n ≤ 65536)
    (hch : w.cell? ⟨sb, 0, none⟩ = some (.slice (some ⟨OB, 0, none⟩) (kk n) oc))
    (hou : w.cell? ⟨OB, p / 1024, none⟩ = some (.slice (some ⟨cb (p / 1024), 0, none⟩) (clen n (p / 1024)) (cp (p / 1024)))) :
    Calls Try.prog 36 #[.pointer (some ⟨sb, 0, none⟩), .int .i64 (p : Int)] w fun e w' => e = .returned (.pointer (some ⟨cb (p / 1024), p % 1024 * 5, none⟩)) ∧ w' = w := by
  have h1 := kk_lt hp
  have h2 := clen_lt hp
  generalize kk n = k at *
  generalize clen n (p / 1024) = c at *
  generalize cb (p / 1024) = B at *
  generalize cp (p / 1024) = C at *
  have h1' : ((p : Int) / 1024) < (k : Int) := by omega
  have h2' : ((p : Int) % 1024) < (c : Int) := by omega
  have t1 : ((p : Int) / 1024).toNat = p / 1024 := by omega
  have t2 : ((p : Int) % 1024).toNat = p % 1024 := by omega
  go_enter Try.func36, Try.ntmps36
  go_wp2
  go_ret
  exact ⟨rfl, rfl⟩

/-! ### Frames by a property of blocks -/
/-- Outside the blocks of X the world w' is as w was; the streams are as they were; no block has gone. -/
structure Fp (X : Nat → Prop) (w w' : World) : Prop where
  os : w'.os = w.os
  tape : w'.tape = w.tape
  output : w'.output = w.output
  size : w.heap.size ≤ w'.heap.size
  block : ∀ k, k < w.heap.size → ¬ X k → w'.heap[k]? = w.heap[k]?

theorem Fp.refl (X : Nat → Prop) (w : World) : Fp X w w := ⟨rfl, rfl, rfl, Nat.le_refl _, fun _ _ _ => rfl⟩
theorem Fp.trans {X : Nat → Prop} {a b c : World} (h : Fp X a b) (k : Fp X b c) : Fp X a c :=
  ⟨k.os.trans h.os, k.tape.trans h.tape, k.output.trans h.output, Nat.le_trans h.size k.size, fun i hi hx => (k.block i (Nat.lt_of_lt_of_le hi h.size) hx).trans (h.block i hi hx)⟩
theorem Fp.mono {X Y : Nat → Prop} {a b : World} (h : Fp X a b) (hs : ∀ k, X k → Y k) : Fp Y a b := ⟨h.os, h.tape, h.output, h.size, fun k hk hx => h.block k hk (fun hh => hx (hs k hh))⟩
theorem Fp.of_below {X : Nat → Prop} {a b : World} (h : Below a.heap.size a b) : Fp X a b := ⟨h.os, h.tape, h.output, h.size, fun k hk _ => h.block k hk⟩
theorem Fp.below {X : Nat → Prop} {a b : World} (h : Fp X a b) {B : Nat} (hB : B ≤ a.heap.size) (hX : ∀ k, X k → B ≤ k) : Below B a b := ⟨h.os, h.tape, h.output, h.size, fun k hk => h.block k (by omega) (fun hx => by have := hX k hx; omega)⟩
theorem Fp.drew {X : Nat → Prop} {a b : World} (h : Fp X a b) : Fp X a b.drew := ⟨h.os, h.tape, h.output, h.size, h.block⟩
theorem Fp.setCell {X : Nat → Prop} {a b : World} (h : Fp X a b) {p : Addr} (hp : X p.block) (u : Value) : Fp X a (b.setCell p u) :=
  h.trans ⟨rfl, rfl, rfl, by simp [World.setCell], fun k _ hx => Below.heap_setCell _ _ _ _ (fun e => hx (e ▸ hp))⟩
theorem Fp.alloc {X : Nat → Prop} {a b : World} (h : Fp X a b) (o : Obj) : Fp X a (b.alloc o) :=
  h.trans ⟨rfl, rfl, rfl, by simp, fun k hk _ => Below.heap_alloc _ _ _ hk⟩
theorem Fp.setCells {X : Nat → Prop} {B : Nat} (hB : X B) : ∀ (vs : List Value) (o : Nat) {a b : World}, Fp X a b → Fp X a (b.setCells B o vs)
  | [], _, _, _, h => h
  | v :: vs, o, _, _, h => Fp.setCells hB vs (o + 1) (h.setCell hB v)
theorem Fp.cell {X : Nat → Prop} {a b : World} (h : Fp X a b) {k o : Nat} (hk : k < a.heap.size) (hx : ¬ X k) : b.cell? ⟨k, o, none⟩ = a.cell? ⟨k, o, none⟩ := World.cell?_of_block (w := a) (h.block k hk hx)
theorem Fp.frozen {X : Nat → Prop} {a b : World} (h : Fp X a b) {k o : Nat} (hk : k < a.heap.size) (hx : ¬ X k) : b.frozen? ⟨k, o, none⟩ = a.frozen? ⟨k, o, none⟩ := World.frozen?_of_block (w := a) (h.block k hk hx)
theorem Fp.cell' {X : Nat → Prop} {a b : World} (h : Fp X a b) {k o : Nat} {v : Value} (hx : ¬ X k) (hc : a.cell? ⟨k, o, none⟩ = some v) : b.cell? ⟨k, o, none⟩ = some v := by
  rw [h.cell (lt_of_cell hc) hx]; exact hc

theorem ItAt.keep {X : Nat → Prop} {w w' : World} {B i : Nat} {t : It} (hf : Fp X w w') (hx : ¬ X B) (h : ItAt w B i t) : ItAt w' B i t :=
  ⟨hf.cell' hx h.s, hf.cell' hx h.k, hf.cell' hx h.v, hf.cell' hx h.l, hf.cell' hx h.r⟩

/-- Five stores side by side. -/
def set5 (w : World) (B i : Nat) (t : It) : World :=
  ((((w.setCell ⟨B, i, none⟩ (.int .u64 t.s)).setCell ⟨B, i + 1, none⟩ (.string t.k)).setCell ⟨B, i + 2, none⟩ (.string t.v)).setCell ⟨B, i + 3, none⟩ (.int .u8 t.l)).setCell ⟨B, i + 4, none⟩ (.int .u64 t.r)

theorem set5_other (w : World) (B i : Nat) (t : It) (b o : Nat) (h : b = B → o < i ∨ i + 5 ≤ o) : (set5 w B i t).cell? ⟨b, o, none⟩ = w.cell? ⟨b, o, none⟩ := by
  unfold set5
  rw [World.cell?_setCell_other _ _ _ _ (by simp; intro e; have := h e.symm; omega), World.cell?_setCell_other _ _ _ _ (by simp; intro e; have := h e.symm; omega), World.cell?_setCell_other _ _ _ _ (by simp; intro e; have := h e.symm; omega),
    World.cell?_setCell_other _ _ _ _ (by simp; intro e; have := h e.symm; omega), World.cell?_setCell_other _ _ _ _ (by simp; intro e; have := h e.symm; omega)]
theorem set5_frozen (w : World) (B i : Nat) (t : It) (a : Addr) : (set5 w B i t).frozen? a = w.frozen? a := by
  unfold set5
  simp
theorem set5_same (w : World) (B i : Nat) (t t' : It) (h : ItAt w B i t') : ItAt (set5 w B i t) B i t := by
  obtain ⟨h0, h1, h2, h3, h4⟩ := h
  unfold set5
  refine ⟨?_, ?_, ?_, ?_, ?_⟩
  all_goals (simp [World.cell?_setCell_other, World.cell?_setCell_same', h0, h1, h2, h3, h4]; done)
theorem set5_fp {X : Nat → Prop} {w : World} {B i : Nat} {t : It} (hB : X B) : Fp X w (set5 w B i t) := by
  unfold set5
  exact (((((Fp.refl _ w).setCell hB _).setCell hB _).setCell hB _).setCell hB _).setCell hB _

/-- The writes that lie in the chunks. -/
structure Cs (w : World) (cb : Nat → Nat) (n : Nat) (f : Nat → It) : Prop where
  it : ∀ p, p < n → ItAt w (cb (p / 1024)) (p % 1024 * 5) (f p)
  fr : ∀ p, p < n → ∀ j, w.frozen? ⟨cb (p / 1024), j, none⟩ = false

theorem Cs.keep {X : Nat → Prop} {w w' : World} {cb : Nat → Nat} {n : Nat} {f : Nat → It} (hf : Fp X w w') (hx : ∀ j, j < kk n → ¬ X (cb j)) (h : Cs w cb n f) : Cs w' cb n f :=
  ⟨fun p hp => (h.it p hp).keep hf (hx _ (kk_lt hp)), fun p hp j => by rw [hf.frozen (lt_of_cell (h.it p hp).s) (hx _ (kk_lt hp))]; exact h.fr p hp j⟩

theorem Cs.set {w : World} {cb : Nat → Nat} {n : Nat} {f : Nat → It} (inj : ∀ i j, i < kk n → j < kk n → cb i = cb j → i = j) (h : Cs w cb n f) (q : Nat) (hq : q < n) (t : It) :
    Cs (set5 w (cb (q / 1024)) (q % 1024 * 5) t) cb n (fun p => if p = q then t else f p) := by
  refine ⟨fun p hp => ?_, fun p hp j => by rw [set5_frozen]; exact h.fr p hp j⟩
  by_cases e : p = q
  · subst e
    rw [if_pos rfl]
    exact set5_same _ _ _ _ _ (h.it p hp)
  · rw [if_neg e]
    have hd : ∀ j, j < 5 → (cb (p / 1024) = cb (q / 1024) → p % 1024 * 5 + j < q % 1024 * 5 ∨ q % 1024 * 5 + 5 ≤ p % 1024 * 5 + j) := fun j hj hc => by
      have := inj _ _ (kk_lt hp) (kk_lt hq) hc
      omega
    obtain ⟨h0, h1, h2, h3, h4⟩ := h.it p hp
    exact ⟨by rw [set5_other _ _ _ _ _ _ (by simpa using hd 0 (by omega))]; exact h0, by rw [set5_other _ _ _ _ _ _ (hd 1 (by omega))]; exact h1, by rw [set5_other _ _ _ _ _ _ (hd 2 (by omega))]; exact h2,
      by rw [set5_other _ _ _ _ _ _ (hd 3 (by omega))]; exact h3, by rw [set5_other _ _ _ _ _ _ (hd 4 (by omega))]; exact h4⟩

theorem Cs.congr {w : World} {cb : Nat → Nat} {n : Nat} {f g : Nat → It} (h : Cs w cb n f) (e : ∀ p, p < n → f p = g p) : Cs w cb n g :=
  ⟨fun p hp => e p hp ▸ h.it p hp, h.fr⟩

/-- The struct and the outer slice. -/
structure Hd (w : World) (sb OB oc : Nat) (cb cp : Nat → Nat) (n : Nat) (dr pr : Int) (rp : Bool) : Prop where
  ch : w.cell? ⟨sb, 0, none⟩ = some (.slice (some ⟨OB, 0, none⟩) (kk n) oc)
  nn : w.cell? ⟨sb, 1, none⟩ = some (.int .i64 (n : Int))
  dd : w.cell? ⟨sb, 2, none⟩ = some (.int .i64 dr)
  pp : w.cell? ⟨sb, 3, none⟩ = some (.int .u64 pr)
  rr : w.cell? ⟨sb, 4, none⟩ = some (.bool rp)
  ou : ∀ j, j < kk n → w.cell? ⟨OB, j, none⟩ = some (.slice (some ⟨cb j, 0, none⟩) (clen n j) (cp j))
  fs : ∀ j, w.frozen? ⟨sb, j, none⟩ = false
  fo : ∀ j, w.frozen? ⟨OB, j, none⟩ = false
  lo : OB < w.heap.size

theorem Hd.keep {X : Nat → Prop} {w w' : World} {sb OB oc : Nat} {cb cp : Nat → Nat} {n : Nat} {dr pr : Int} {rp : Bool} (hf : Fp X w w') (h1 : ¬ X sb) (h2 : ¬ X OB) (h : Hd w sb OB oc cb cp n dr pr rp) : Hd w' sb OB oc cb cp n dr pr rp :=
  ⟨hf.cell' h1 h.ch, hf.cell' h1 h.nn, hf.cell' h1 h.dd, hf.cell' h1 h.pp, hf.cell' h1 h.rr, fun j hj => hf.cell' h2 (h.ou j hj), fun j => by rw [hf.frozen (lt_of_cell h.ch) h1]; exact h.fs j, fun j => by rw [hf.frozen h.lo h2]; exact h.fo j, Nat.lt_of_lt_of_le h.lo hf.size⟩

/-- The blocks are apart. -/
structure Dj (sb OB : Nat) (cb : Nat → Nat) (k : Nat) : Prop where
  so : sb ≠ OB
  cs : ∀ j, j < k → cb j ≠ sb
  co : ∀ j, j < k → cb j ≠ OB
  inj : ∀ i j, i < k → j < k → cb i = cb j → i = j

end Go.Proofs.Qxb6605272a
