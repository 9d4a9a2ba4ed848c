import Derived.Test.Qxb6605272aSx
/-! Between the helpers: the settled struct stands ready for squeeze; shorter views. -/
namespace Go.Proofs.Qxb6605272a
open Go.RowKit
set_option maxHeartbeats 4000000
set_option maxRecDepth 100000

theorem kk_le {m n : Nat} (h : m ≤ n) : kk m ≤ kk n := by unfold kk; omega
theorem Cs.le {w : World} {cb : Nat → Nat} {m n : Nat} {f : Nat → It} (h : Cs w cb n f) (hm : m ≤ n) : Cs w cb m f := ⟨fun p hp => h.it p (by omega), fun p hp => h.fr p (by omega)⟩
theorem Dj.le {sb OB : Nat} {cb : Nat → Nat} {k k' : Nat} (h : Dj sb OB cb k) (hk : k' ≤ k) : Dj sb OB cb k' := ⟨h.so, fun j hj => h.cs j (by omega), fun j hj => h.co j (by omega), fun i j hi hj => h.inj i j (by omega) (by omega)⟩

theorem Bc.cs {w w' : World} {n : Nat} {cb : Nat → Nat} {F : Nat → It} (h : Bc w w' n (kk n) cb F) : Cs w' cb n F := by
  refine ⟨fun p hp => ?_, fun p hp => (h.ls _ (kk_lt hp)).fr⟩
  have := (h.ls _ (kk_lt hp)).it (p % 1024) (clen_lt hp)
  rw [show 1024 * (p / 1024) + p % 1024 = p by omega] at this
  exact this

theorem Bc.ready {w w' : World} {n : Nat} {cb : Nat → Nat} {F : Nat → It} (h : Bc w w' n (kk n) cb F) (dr pr : Int) (rp : Bool) :
    Hd (w'.alloc (.cells #[.slice (some ⟨w.heap.size, 0, none⟩) (kk n) (kk n), .int .i64 (n : Int), .int .i64 dr, .int .u64 pr, .bool rp] 70)) w'.heap.size w.heap.size (kk n) cb (clen n) n dr pr rp ∧
    Cs (w'.alloc (.cells #[.slice (some ⟨w.heap.size, 0, none⟩) (kk n) (kk n), .int .i64 (n : Int), .int .i64 dr, .int .u64 pr, .bool rp] 70)) cb n F ∧ Dj w'.heap.size w.heap.size cb (kk n) := by
  have hb : Below w'.heap.size w' (w'.alloc (.cells #[.slice (some ⟨w.heap.size, 0, none⟩) (kk n) (kk n), .int .i64 (n : Int), .int .i64 dr, .int .u64 pr, .bool rp] 70)) := (Below.refl _ _).alloc (Nat.le_refl _) _
  have hs := h.sz
  have c : ∀ j, (w'.alloc (.cells #[.slice (some ⟨w.heap.size, 0, none⟩) (kk n) (kk n), .int .i64 (n : Int), .int .i64 dr, .int .u64 pr, .bool rp] 70)).cell? ⟨w'.heap.size, j, none⟩ = #[Value.slice (some ⟨w.heap.size, 0, none⟩) (kk n) (kk n), .int .i64 (n : Int), .int .i64 dr, .int .u64 pr, .bool rp][j]? := fun j => World.cell?_alloc_at _ _ _ _ (by simp)
  have fz : ∀ j, (w'.alloc (.cells #[.slice (some ⟨w.heap.size, 0, none⟩) (kk n) (kk n), .int .i64 (n : Int), .int .i64 dr, .int .u64 pr, .bool rp] 70)).frozen? ⟨w'.heap.size, j, none⟩ = false := fun j => World.frozen?_alloc_at _ _ _ _ (by simp)
  refine ⟨⟨by rw [c]; rfl, by rw [c]; rfl, by rw [c]; rfl, by rw [c]; rfl, by rw [c]; rfl, fun j hj => cell_grown hb (h.ou j hj), fz, fun j => ?_, by simp; omega⟩, h.cs.keep (X := fun _ => False) (Fp.of_below hb) (fun _ _ x => x), ⟨by omega, fun j hj => ?_, fun j hj => ?_, h.inj⟩⟩
  · rw [World.frozen?_of_block (w := w') (hb.block _ (by show w.heap.size < _; omega))]; exact h.fou j
  · have := h.lo j hj; omega
  · have := h.lo j hj; omega

/-- What the laws use of a squeeze that has been. -/
structure Done (w3 : World) (sb OB : Nat) (oc : Nat) (cb cp : Nat → Nat) (m : Nat) (g : Nat → It) (pr : Int) (rp : Bool) : Prop where
  hd : Hd w3 sb OB oc cb cp m 0 pr rp
  cs : Cs w3 cb m g
theorem SqPost.done {w w' : World} {sb OB oc : Nat} {cb cp : Nat → Nat} {n : Nat} {f : Nat → It} {pr : Int} {rp : Bool} (h : SqPost w w' sb OB oc cb cp n f pr rp) : Done w' sb OB oc cb cp (keepL f n).length (endL f n) pr rp := ⟨h.hd, h.cs.le (keepL_le f n)⟩
theorem Done.keep {X : Nat → Prop} {w w' : World} {sb OB oc : Nat} {cb cp : Nat → Nat} {m : Nat} {g : Nat → It} {pr : Int} {rp : Bool} (hf : Fp X w w') (h1 : ¬ X sb) (h2 : ¬ X OB) (h3 : ∀ j, j < kk m → ¬ X (cb j)) (h : Done w sb OB oc cb cp m g pr rp) : Done w' sb OB oc cb cp m g pr rp :=
  ⟨h.hd.keep hf h1 h2, h.cs.keep hf h3⟩
theorem Done.grown {w w' : World} {sb OB oc : Nat} {cb cp : Nat → Nat} {m : Nat} {g : Nat → It} {pr : Int} {rp : Bool} (hf : Below w.heap.size w w') (h : Done w sb OB oc cb cp m g pr rp) : Done w' sb OB oc cb cp m g pr rp :=
  h.keep (X := fun _ => False) (Fp.of_below hf) (fun x => x) (fun x => x) (fun _ _ x => x)

/-- Squeezing what a squeeze has left leaves it as it was. -/
theorem endL_unmarked (f : Nat → It) (n p : Nat) (hp : p < (keepL f n).length) : ((endL f n p).l != 255) = true := by
  unfold endL
  rw [dif_pos hp]
  exact keepL_unmarked f n _ (List.getElem_mem hp)
end Go.Proofs.Qxb6605272a
