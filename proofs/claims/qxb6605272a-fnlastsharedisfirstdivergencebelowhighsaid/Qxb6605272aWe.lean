import Derived.Test.Qxb6605272aPlain
import Derived.Test.Qxb6605272aWc
/-! hasSeqno (10), toHistory (12), branchOf (14), sharedAt (15), sharedWhereBegun (13), zzBytes (9). -/
namespace Go.Proofs.Qxb6605272a
open Go.RowKit
set_option maxHeartbeats 1000000
set_option maxRecDepth 100000

theorem zb9_any (a a' : Option Addr) (n cap n' cap' : Nat) (v : Value) (w : World) (hl : n ≤ 9223372036854775807) (hl' : n' ≤ 9223372036854775807) :
    Calls Try.prog 9 #[.slice a n cap, .slice a' n' cap', v] w fun e w' => (e = .returned (.bool true) ∨ e = .returned (.bool false)) ∧ w' = w := by
  go_enter Try.func9, Try.ntmps9
  go_wp2
  all_goals
    go_ret
    refine ⟨?_, rfl⟩
    first | exact Or.inl rfl | exact Or.inr rfl

theorem has_some (b off cap : Nat) (xs : Hs) (q : Int) (w : World) (hl : xs.length ≤ 9223372036854775807)
    (hd : ∀ i (h : i < xs.length), w.cell? ⟨b, off + i * 2, none⟩ = some (.int .u64 xs[i].1) ∧ w.cell? ⟨b, off + i * 2 + 1, none⟩ = some (.int .u64 xs[i].2)) :
    Calls Try.prog 10 #[.slice (some ⟨b, off, none⟩) xs.length cap, .int .u64 q] w fun e w' => e = .returned (.bool (hasB xs q)) ∧ w' = w := by
  go_enter Try.func10, Try.ntmps10
  go_wp2
  go_loop [5] (fun i => ∃ k : Nat, k ≤ xs.length ∧ i = .int .i64 k ∧ hasB (xs.take k) q = false) (fun i => xs.length - (intOf i).toNat)
  case atStart => exact ⟨0, Nat.zero_le _, rfl, by simp [hasB]⟩
  case round =>
    obtain ⟨k, hk, rfl, hn⟩ := hrel
    by_cases hlt : k < xs.length
    · have hc1 := (hd k hlt).2
      have HN := hide hn
      have HT := hide (List.take_succ_eq_append_getElem hlt)
      clear hd hn
      cases he : (xs[k].2 == q)
      · go_wp2
        go_round
        case rel => exact ⟨k + 1, by omega, by go_num, by rw [unhide HT]; unfold hasB; rw [List.any_append]; have := unhide HN; unfold hasB at this; simp [this, he]⟩
        case measure => simp [intOf]; omega
      · have HE := hide he
        go_wp2
        go_ret
        have heq : xs[k].2 = q := by have := unhide HE; simpa using this
        exact ⟨by rw [← heq, hasB_mem (List.getElem_mem hlt)]; rfl, rfl⟩
    · rw [List.take_of_length_le (show xs.length ≤ k by omega)] at hn
      have HN := hide hn
      clear hn
      go_wp2
      go_ret
      exact ⟨by rw [unhide HN]; rfl, rfl⟩

theorem has_none (a : Option Addr) (cap : Nat) (q : Int) (w : World) :
    Calls Try.prog 10 #[.slice a 0 cap, .int .u64 q] w fun e w' => e = .returned (.bool false) ∧ w' = w := by
  go_enter Try.func10, Try.ntmps10
  go_wp2
  refine wp_loop_rounds 1 ?_
  rw [rounds_succ]
  go_wp2
  go_ret
  exact ⟨rfl, rfl⟩

theorem has_any (a : Option Addr) (cap : Nat) (xs : Hs) (q : Int) (w : World) (hl : xs.length ≤ 9223372036854775807) (hd : Hist w a xs) :
    Calls Try.prog 10 #[.slice a xs.length cap, .int .u64 q] w fun e w' => e = .returned (.bool (hasB xs q)) ∧ w' = w := by
  rcases hd with rfl | ⟨b, off, rfl, hc⟩
  · exact has_none a cap q w
  · exact has_some b off cap xs q w hl hc

theorem bo_some (b off cap : Nat) (xs : Hs) (s : Int) (w : World) (hl : xs.length ≤ 9223372036854775807)
    (hd : ∀ i (h : i < xs.length), w.cell? ⟨b, off + i * 2, none⟩ = some (.int .u64 xs[i].1) ∧ w.cell? ⟨b, off + i * 2 + 1, none⟩ = some (.int .u64 xs[i].2)) :
    Calls Try.prog 14 #[.slice (some ⟨b, off, none⟩) xs.length cap, .int .u64 s] w fun e w' => e = .returned (.tuple #[.int .u64 (brId xs s), .bool (brOk xs s)]) ∧ w' = w := by
  go_enter Try.func14, Try.ntmps14
  go_wp2
  go_loop [6] (fun i => ∃ k : Nat, k ≤ xs.length ∧ i = .int .i64 k ∧ noneUp xs s k) (fun i => xs.length - (intOf i).toNat)
  case atStart => exact ⟨0, Nat.zero_le _, rfl, fun i _ h => by omega⟩
  case round =>
    obtain ⟨k, hk, rfl, hn⟩ := hrel
    by_cases hlt : k < xs.length
    · have hc0 := (hd k hlt).1
      have hc1 := (hd k hlt).2
      have HN := hide hn
      clear hd hn
      by_cases hs : xs[k].2 < s
      · go_wp2
        go_ret2
        obtain ⟨h1, h2⟩ := br_hit xs s k hlt (unhide HN) hs
        exact ⟨by rw [h1, h2]; rfl, rfl⟩
      · go_wp2
        go_round
        case rel => exact ⟨k + 1, by omega, by go_num, fun i hi hik => by by_cases e : i = k; (subst e; omega); exact unhide HN i hi (by omega)⟩
        case measure => simp [intOf]; omega
    · go_wp2
      go_ret2
      obtain ⟨h1, h2⟩ := br_miss xs s (fun i hi _ => hn i hi (by omega))
      exact ⟨by rw [h1, h2]; rfl, rfl⟩

theorem bo_none (a : Option Addr) (cap : Nat) (s : Int) (w : World) :
    Calls Try.prog 14 #[.slice a 0 cap, .int .u64 s] w fun e w' => e = .returned (.tuple #[.int .u64 0, .bool false]) ∧ w' = w := by
  go_enter Try.func14, Try.ntmps14
  go_wp2
  refine wp_loop_rounds 1 ?_
  rw [rounds_succ]
  go_wp2
  go_ret2
  exact ⟨rfl, rfl⟩

theorem bo_any (a : Option Addr) (cap : Nat) (xs : Hs) (s : Int) (w : World) (hl : xs.length ≤ 9223372036854775807) (hd : Hist w a xs) :
    Calls Try.prog 14 #[.slice a xs.length cap, .int .u64 s] w fun e w' => e = .returned (.tuple #[.int .u64 (brId xs s), .bool (brOk xs s)]) ∧ w' = w := by
  rcases hd with rfl | ⟨b, off, rfl, hc⟩
  · exact bo_none a cap s w
  · exact bo_some b off cap xs s w hl hc

/-- sharedAt. -/
theorem sa_any (a a' : Option Addr) (cap cap' : Nat) (xs ys : Hs) (s : Int) (w : World) (hl : xs.length ≤ 9223372036854775807) (hl' : ys.length ≤ 9223372036854775807) (hx : Hist w a xs) (hy : Hist w a' ys) :
    Calls Try.prog 15 #[.slice a xs.length cap, .slice a' ys.length cap', .int .u64 s] w fun e w' => e = .returned (.bool (sharedB xs ys s)) ∧ w' = w := by
  have h1 := bo_any a cap xs s w hl hx
  have h2 := bo_any a' cap' ys s w hl' hy
  have HS := hide (show sharedB xs ys s = (brOk xs s && brOk ys s && (brId xs s == brId ys s)) from rfl)
  clear hx hy
  cases ho : brOk xs s
  all_goals cases ho' : brOk ys s
  all_goals
    go_enter Try.func15, Try.ntmps15
    go_wp2_with fail
    refine h1.mono ?_
    rintro e w1 ⟨rfl, hw1⟩
    subst hw1
    go_wp2_with fail
    refine h2.mono ?_
    rintro e w2 ⟨rfl, hw2⟩
    subst hw2
    go_wp2_with fail
    go_ret
    exact ⟨by rw [unhide HS]; simp [ho, ho'], rfl⟩

/-- sharedWhereBegun, where all that it looks at is shared. -/
theorem sw_yes (a0 a a' : Option Addr) (cap0 cap cap' : Nat) (zs xs ys : Hs) (upto : Int) (w : World) (hl0 : zs.length ≤ 9223372036854775807) (hl : xs.length ≤ 9223372036854775807) (hl' : ys.length ≤ 9223372036854775807)
    (hz : Hist w a0 zs) (hx : Hist w a xs) (hy : Hist w a' ys) (hok : HOk zs) (hall : ∀ e, e ∈ zs → e.2 + 1 ≤ upto → sharedB xs ys (e.2 + 1) = true) :
    Calls Try.prog 13 #[.slice a0 zs.length cap0, .slice a xs.length cap, .slice a' ys.length cap', .int .u64 upto] w fun e w' => e = .returned (.bool true) ∧ w' = w := by
  have H15 := hide (fun s => sa_any a a' cap cap' xs ys s w hl hl' hx hy)
  have HZ := hide hz
  have HOK := hide hok
  have HALL := hide hall
  clear hz hx hy hok hall
  go_enter Try.func13, Try.ntmps13
  go_wp2_with fail
  go_loop [9] (fun i => ∃ k : Nat, k ≤ zs.length ∧ i = .int .i64 k) (fun i => zs.length - (intOf i).toNat)
  case atStart => exact ⟨0, Nat.zero_le _, rfl⟩
  case round =>
    obtain ⟨k, hk, rfl⟩ := hrel
    by_cases hlt : k < zs.length
    · rcases unhide HZ with h0 | ⟨b, off, hav, hc⟩
      · rw [h0] at hlt; simp at hlt
      have hc1 := (hc k hlt).2
      have hzk := unhide HOK k hlt
      have HSH := hide (unhide HALL zs[k] (List.getElem_mem hlt))
      have hw1 : IntKind.u64.wrap (zs[k].2 + 1) = zs[k].2 + 1 := by rw [IntKind.wrap_u64]; omega
      clear hc
      subst hav
      by_cases hu : zs[k].2 + 1 ≤ upto
      · have h15 := unhide H15 (zs[k].2 + 1)
        rw [unhide HSH hu] at h15
        go_wp2_with fail
        refine h15.mono ?_
        rintro e w1 ⟨rfl, hw1'⟩
        subst hw1'
        clear h15
        go_wp2_with fail
        go_round
        case rel => exact ⟨k + 1, by omega, by go_num⟩
        case measure => simp [intOf]; omega
      · go_wp2_with fail
        go_round
        case rel => exact ⟨k + 1, by omega, by go_num⟩
        case measure => simp [intOf]; omega
    · go_wp2_with fail
      go_ret
      exact ⟨rfl, rfl⟩

end Go.Proofs.Qxb6605272a
