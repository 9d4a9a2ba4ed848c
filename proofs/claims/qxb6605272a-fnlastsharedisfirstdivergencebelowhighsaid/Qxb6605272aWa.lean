import Derived.Test.Qxb6605272aBase
/-! BranchAt (35), lastShared (32), ZZLastShared (11). -/
namespace Go.Proofs.Qxb6605272a
open Go.RowKit
set_option maxHeartbeats 1000000

theorem ba_some (b off cap : Nat) (xs : Hs) (s : Int) (w : World) (hl : xs.length ≤ 9223372036854775807)
    (hd : ∀ i (h : i < xs.length), w.cell? ⟨b, off + i * 2, none⟩ = some (.int .u64 xs[i].1) ∧ w.cell? ⟨b, off + i * 2 + 1, none⟩ = some (.int .u64 xs[i].2)) :
    Calls Try.prog 35 #[.slice (some ⟨b, off, none⟩) xs.length cap, .int .u64 s] w fun e w' => e = .returned (.tuple #[.int .u64 (brId xs s), .bool (brOk xs s)]) ∧ Below w.heap.size w w' := by
  go_enter Try.func35, Try.ntmps35
  go_wp2
  go_loopw [10] (fun i wr => ∃ k : Nat, k ≤ xs.length ∧ i = .int .i64 k ∧ noneUp xs s k ∧ Below w.heap.size w wr) (fun i _ => xs.length - (intOf i).toNat)
  case atStart => exact ⟨0, Nat.zero_le _, rfl, fun i _ h => by omega, Below.refl _ _⟩
  case round =>
    obtain ⟨k, hk, rfl, hn, hbr⟩ := hrel
    by_cases hlt : k < xs.length
    · have hc0 := cell_grown hbr (hd k hlt).1
      have hc1 := cell_grown hbr (hd k hlt).2
      have HN := hide hn
      clear hd hn
      by_cases hs : xs[k].2 < s
      · go_wp2
        go_ret2
        obtain ⟨h1, h2⟩ := br_hit xs s k hlt (unhide HN) hs
        exact ⟨by rw [h1, h2]; rfl, hbr.alloc hbr.size _⟩
      · go_wp2
        go_roundw
        case rel => exact ⟨k + 1, by omega, by go_num, fun i hi hik => by by_cases e : i = k; (subst e; omega); exact unhide HN i hi (by omega), hbr.alloc hbr.size _⟩
        case measure => simp [intOf]; omega
    · go_wp2
      go_ret2
      obtain ⟨h1, h2⟩ := br_miss xs s (fun i hi _ => hn i hi (by omega))
      exact ⟨by rw [h1, h2]; rfl, hbr⟩

theorem ba_none (a : Option Addr) (cap : Nat) (s : Int) (w : World) :
    Calls Try.prog 35 #[.slice a 0 cap, .int .u64 s] w fun e w' => e = .returned (.tuple #[.int .u64 0, .bool false]) ∧ w' = w := by
  go_enter Try.func35, Try.ntmps35
  go_wp2
  refine wp_loop_rounds 1 ?_
  rw [rounds_succ]
  go_wp2
  go_ret2
  exact ⟨rfl, rfl⟩

/-- BranchAt. -/
theorem ba_any (a : Option Addr) (cap : Nat) (xs : Hs) (s : Int) (w : World) (hl : xs.length ≤ 9223372036854775807) (hd : Hist w a xs) :
    Calls Try.prog 35 #[.slice a xs.length cap, .int .u64 s] w fun e w' => e = .returned (.tuple #[.int .u64 (brId xs s), .bool (brOk xs s)]) ∧ Below w.heap.size w w' := by
  rcases hd with rfl | ⟨b, off, rfl, hc⟩
  · exact (ba_none a cap s w).mono fun e w' ⟨h1, h2⟩ => ⟨h1, h2 ▸ Below.refl _ _⟩
  · exact ba_some b off cap xs s w hl hc

end Go.Proofs.Qxb6605272a
