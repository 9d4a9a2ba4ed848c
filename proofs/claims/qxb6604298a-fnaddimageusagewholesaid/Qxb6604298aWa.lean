import Derived.Test.Qxb6604298aBase
/-! The walks over the readers: zzImageTokens (13), zzDetailsBytes (22), zzMetaBytes (8), zzListBytes (20). -/
namespace Go.Proofs.Qxb6604298a
open Go.RowKit
set_option maxHeartbeats 1000000

/-- zzImageTokens, over a slice that is not nil. -/
theorem img_some (b off cap : Nat) (xs : Ds) (w : World) (hl : xs.length ≤ 9223372036854775807)
    (hd : ∀ i (h : i < xs.length), w.cell? ⟨b, off + i * 2, none⟩ = some (.string xs[i].1) ∧ w.cell? ⟨b, off + i * 2 + 1, none⟩ = some (.int .i64 xs[i].2)) :
    Calls Try.prog 13 #[.slice (some ⟨b, off, none⟩) xs.length cap] w fun e w' => e = .returned (.int .i64 (wrap64 (isum xs))) ∧ w' = w := by
  go_enter Try.func13, Try.ntmps13
  go_wp2
  go_loop [3, 4] (fun n i => ∃ k : Nat, k ≤ xs.length ∧ i = .int .i64 k ∧ n = .int .i64 (wrap64 (isum (xs.take k)))) (fun _ i => xs.length - (intOf i).toNat)
  case atStart => exact ⟨0, Nat.zero_le _, rfl, by simp [isum, wrap64_zero]⟩
  case round =>
    obtain ⟨k, hk, rfl, rfl⟩ := hrel
    by_cases hlt : k < xs.length
    · obtain ⟨hc0, hc1⟩ := hd k hlt
      have HS := isum_snoc xs k hlt
      have HS' : Hid (isum (xs.take (k + 1)) = isum (xs.take k) + (if isImg xs[k].1 = true then xs[k].2 else 0)) := HS
      clear hd HS
      go_wp2
      all_goals
        refine ⟨⟨k + 1, by omega, by go_num, ?_⟩, by simp [intOf]; omega⟩
        rw [HS'.out]
      · rw [if_pos (by unfold isImg; assumption), wrap64_wadd]
      · rw [if_neg (by unfold isImg; simp_all)]; simp
    · go_wp2
      go_ret
      exact ⟨ret_int (by rw [List.take_of_length_le (by omega)]), rfl⟩

/-- zzImageTokens of a nil slice. -/
theorem img_none (a : Option Addr) (cap : Nat) (w : World) :
    Calls Try.prog 13 #[.slice a 0 cap] w fun e w' => e = .returned (.int .i64 0) ∧ w' = w := by
  go_enter Try.func13, Try.ntmps13
  go_wp2
  refine wp_loop_rounds 1 ?_
  rw [rounds_succ]
  go_wp2
  go_ret
  exact ⟨rfl, rfl⟩

theorem img_any (a : Option Addr) (cap : Nat) (xs : Ds) (w : World) (hl : xs.length ≤ 9223372036854775807) (hd : Det w a xs) :
    Calls Try.prog 13 #[.slice a xs.length cap] w fun e w' => e = .returned (.int .i64 (wrap64 (isum xs))) ∧ w' = w := by
  rcases hd with rfl | ⟨b, off, rfl, hc⟩
  · exact (img_none a cap w).mono fun e w' ⟨h1, h2⟩ => ⟨by rw [h1]; simp [isum, wrap64_zero], h2⟩
  · exact img_some b off cap xs w hl hc

/-- zzDetailsBytes hands back some number and touches nothing. -/
theorem dbytes_some (b off cap : Nat) (xs : Ds) (w : World) (hl : xs.length ≤ 9223372036854775807)
    (hd : ∀ i (h : i < xs.length), w.cell? ⟨b, off + i * 2, none⟩ = some (.string xs[i].1) ∧ w.cell? ⟨b, off + i * 2 + 1, none⟩ = some (.int .i64 xs[i].2)) :
    Calls Try.prog 22 #[.slice (some ⟨b, off, none⟩) xs.length cap] w fun e w' => (∃ n, e = .returned (.int .i64 n)) ∧ w' = w := by
  go_enter Try.func22, Try.ntmps22
  go_wp2
  go_loop [3, 4] (fun n i => ∃ (k : Nat) (q : Int), k ≤ xs.length ∧ i = .int .i64 k ∧ n = .int .i64 q) (fun _ i => xs.length - (intOf i).toNat)
  case atStart => exact ⟨0, _, Nat.zero_le _, rfl, rfl⟩
  case round =>
    obtain ⟨k, q, hk, rfl, rfl⟩ := hrel
    by_cases hlt : k < xs.length
    · obtain ⟨hc0, hc1⟩ := hd k hlt
      clear hd
      go_wp2
      · go_ret
        exact ⟨⟨_, rfl⟩, rfl⟩
      · exact ⟨⟨k + 1, _, by omega, by go_num, rfl⟩, by simp [intOf]; omega⟩
    · go_wp2
      go_ret
      exact ⟨⟨_, rfl⟩, rfl⟩

theorem dbytes_none (a : Option Addr) (cap : Nat) (w : World) :
    Calls Try.prog 22 #[.slice a 0 cap] w fun e w' => (∃ n, e = .returned (.int .i64 n)) ∧ w' = w := by
  go_enter Try.func22, Try.ntmps22
  go_wp2
  refine wp_loop_rounds 1 ?_
  rw [rounds_succ]
  go_wp2
  go_ret
  exact ⟨⟨_, rfl⟩, rfl⟩

theorem dbytes_any (a : Option Addr) (cap : Nat) (xs : Ds) (w : World) (hl : xs.length ≤ 9223372036854775807) (hd : Det w a xs) :
    Calls Try.prog 22 #[.slice a xs.length cap] w fun e w' => (∃ n, e = .returned (.int .i64 n)) ∧ w' = w := by
  rcases hd with rfl | ⟨b, off, rfl, hc⟩
  · exact dbytes_none a cap w
  · exact dbytes_some b off cap xs w hl hc

/-- zzMetaBytes of a metadata that lies in memory. -/
theorem mbytes_any (b off : Nat) (m : Mt) (w : World) (ho : MtOk m) (h : MtAt w b off m) :
    Calls Try.prog 8 #[.pointer (some ⟨b, off, none⟩)] w fun e w' => (∃ n, e = .returned (.int .i64 n)) ∧ w' = w := by
  have h1 := dbytes_any m.pa m.pc m.pd w (by have := ho.pl; omega) h.pd
  have h2 := dbytes_any m.ca m.cc m.cd w (by have := ho.cl; omega) h.cd
  have c4 := h.pv
  have c5 := h.cv
  clear h ho
  generalize m.pd.length = np at *
  generalize m.cd.length = nc at *
  go_enter Try.func8, Try.ntmps8
  go_wp2_with fail
  refine h1.mono ?_
  rintro e w' ⟨⟨n, rfl⟩, rfl⟩
  go_wp2_with fail
  · go_ret
    exact ⟨⟨_, rfl⟩, rfl⟩
  · refine h2.mono ?_
    rintro e w2 ⟨⟨n2, rfl⟩, rfl⟩
    go_wp2_with fail
    go_ret
    exact ⟨⟨_, rfl⟩, rfl⟩

/-- zzMetaBytes of nil. -/
theorem mbytes_nil (w : World) :
    Calls Try.prog 8 #[.pointer none] w fun e w' => (∃ n, e = .returned (.int .i64 n)) ∧ w' = w := by
  go_enter Try.func8, Try.ntmps8
  go_wp2
  go_ret
  exact ⟨⟨_, rfl⟩, rfl⟩

/-- zzListBytes: a list of metadata, six cells each. -/
theorem lbytes_some (b off cap : Nat) (ms : List Mt) (w : World) (hl : ms.length ≤ 9223372036854775807)
    (hm : ∀ i (h : i < ms.length), MtAt w b (off + i * 6) ms[i] ∧ MtOk ms[i]) :
    Calls Try.prog 20 #[.slice (some ⟨b, off, none⟩) ms.length cap] w fun e w' => (∃ n, e = .returned (.int .i64 n)) ∧ w' = w := by
  go_enter Try.func20, Try.ntmps20
  go_wp2
  go_loop [3, 4] (fun n i => ∃ (k : Nat) (q : Int), k ≤ ms.length ∧ i = .int .i64 k ∧ n = .int .i64 q) (fun _ i => ms.length - (intOf i).toNat)
  case atStart => exact ⟨0, _, Nat.zero_le _, rfl, rfl⟩
  case round =>
    obtain ⟨k, q, hk, rfl, rfl⟩ := hrel
    by_cases hlt : k < ms.length
    · have hc := mbytes_any b (off + k * 6) ms[k] w (hm k hlt).2 (hm k hlt).1
      clear hm
      go_wp2_with fail
      refine hc.mono ?_
      rintro e w' ⟨⟨n, rfl⟩, rfl⟩
      go_wp2_with fail
      · go_ret
        exact ⟨⟨_, rfl⟩, rfl⟩
      · exact ⟨⟨k + 1, _, by omega, by go_num, rfl⟩, by simp [intOf]; omega⟩
    · go_wp2
      go_ret
      exact ⟨⟨_, rfl⟩, rfl⟩

theorem lbytes_none (a : Option Addr) (cap : Nat) (w : World) :
    Calls Try.prog 20 #[.slice a 0 cap] w fun e w' => (∃ n, e = .returned (.int .i64 n)) ∧ w' = w := by
  go_enter Try.func20, Try.ntmps20
  go_wp2
  refine wp_loop_rounds 1 ?_
  rw [rounds_succ]
  go_wp2
  go_ret
  exact ⟨⟨_, rfl⟩, rfl⟩
end Go.Proofs.Qxb6604298a
