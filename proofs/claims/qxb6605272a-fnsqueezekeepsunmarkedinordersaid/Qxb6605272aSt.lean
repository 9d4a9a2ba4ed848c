import Derived.Test.Qxb6605272aSr
import Derived.BigQuiet
/-! ZZMakeSettled (26), ZZSqueeze (27), ZZSettledParts (28). -/
namespace Go.Proofs.Qxb6605272a
open Go.RowKit
set_option maxHeartbeats 4000000
set_option maxRecDepth 100000

/-- ZZMakeSettled: a new block with the five parts. -/
theorem mk_any (a : Option Addr) (l c : Nat) (n dr pr : Int) (rp : Bool) (w : World) :
    Calls Try.prog 26 #[.slice a l c, .int .i64 n, .int .i64 dr, .int .u64 pr, .bool rp] w fun e w' =>
      e = .returned (.pointer (some ⟨w.heap.size, 0, none⟩)) ∧ w' = w.alloc (.cells #[.slice a l c, .int .i64 n, .int .i64 dr, .int .u64 pr, .bool rp] 70) := by
  go_enter Try.func26, Try.ntmps26
  go_wp2
  go_ret
  exact ⟨rfl, rfl⟩

/-- ZZSqueeze calls squeeze. -/
theorem sz_any (sb : Nat) (w : World) (Q : World → Prop) (h : Calls Try.prog 34 #[.pointer (some ⟨sb, 0, none⟩)] w fun e w' => e = .returned (.tuple #[]) ∧ Q w') :
    Calls Try.prog 27 #[.pointer (some ⟨sb, 0, none⟩)] w fun e w' => e = .returned (.tuple #[]) ∧ Q w' := by
  have H := hide h
  clear h
  go_enter Try.func27, Try.ntmps27
  go_wp2_with (first | (go_at_call 34; refine (unhide H).mono ?_; rintro e w' ⟨rfl, hw⟩))
  go_end0
  exact ⟨rfl, hw⟩

/-- ZZSettledParts of a settled struct that lies in memory. -/
theorem pt_any (sb : Nat) (a : Option Addr) (l c : Nat) (n dr pr : Int) (rp : Bool) (w : World)
    (h0 : w.cell? ⟨sb, 0, none⟩ = some (.slice a l c)) (h1 : w.cell? ⟨sb, 1, none⟩ = some (.int .i64 n)) (h2 : w.cell? ⟨sb, 2, none⟩ = some (.int .i64 dr)) (h3 : w.cell? ⟨sb, 3, none⟩ = some (.int .u64 pr)) (h4 : w.cell? ⟨sb, 4, none⟩ = some (.bool rp)) :
    Calls Try.prog 28 #[.pointer (some ⟨sb, 0, none⟩)] w fun e w' =>
      e = .returned (.tuple #[.slice a l c, .int .i64 n, .int .i64 dr, .int .u64 pr, .bool rp]) ∧ ∃ m, w' = w.drewN m := by
  go_enter Try.func28, Try.ntmps28
  go_wp2_with fail
  go_quiet (fail)
  go_wp2_with fail
  exact bodyPost_ret (v := .tuple #[.slice a l c, .int .i64 n, .int .i64 dr, .int .u64 pr, .bool rp]) (by simp [results, Try.results28, go_sem]) rfl ⟨rfl, _, rfl⟩
end Go.Proofs.Qxb6605272a
