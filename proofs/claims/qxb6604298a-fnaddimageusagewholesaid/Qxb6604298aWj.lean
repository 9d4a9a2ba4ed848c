import Derived.Test.Qxb6604298aWe
/-! zzEqualImageUsage (18). -/
namespace Go.Proofs.Qxb6604298a
open Go.RowKit
set_option maxHeartbeats 2000000

/-- zzEqualImageUsage of two usages with the same counts. -/
theorem eq_yes (b d b' d' : Nat) (u : Im) (w : World) (h : ImAt w b d u) (h' : ImAt w b' d' u) :
    Calls Try.prog 18 #[.pointer (some ⟨b, 0, none⟩), .pointer (some ⟨b', 0, none⟩)] w fun e w' => e = .returned (.bool true) ∧ Below w.heap.size w w' := by
  obtain ⟨e0, e1, e2, e3, e4, e5, e6, e7, _, _, _, _, _⟩ := h
  obtain ⟨g0, g1, g2, g3, g4, g5, g6, g7, _, _, _, _, _⟩ := h'
  go_enter Try.func18, Try.ntmps18
  go_wp2_with fail
  go_quiet (fail)
  go_wp2_with fail
  go_ret
  exact ⟨rfl, ⟨rfl, rfl, rfl, Nat.le_refl _, fun _ _ => rfl⟩⟩
end Go.Proofs.Qxb6604298a
