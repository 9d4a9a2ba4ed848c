import Derived.Test.Qxb6604298aWe
/-! zzSameDetails (26), zzSameMeta (17). -/
namespace Go.Proofs.Qxb6604298a
open Go.RowKit
set_option maxHeartbeats 4000000
set_option maxRecDepth 100000

theorem sd_some (b off b' off' c c' : Nat) (xs : Ds) (w : World) (hl : xs.length ≤ 9223372036854775807)
    (hg : ∀ i (h : i < xs.length), w.cell? ⟨b', off' + i * 2, none⟩ = some (.string xs[i].1) ∧ w.cell? ⟨b', off' + i * 2 + 1, none⟩ = some (.int .i64 xs[i].2))
    (hd : ∀ i (h : i < xs.length), w.cell? ⟨b, off + i * 2, none⟩ = some (.string xs[i].1) ∧ w.cell? ⟨b, off + i * 2 + 1, none⟩ = some (.int .i64 xs[i].2)) :
    Calls Try.prog 26 #[.slice (some ⟨b', off', none⟩) xs.length c', .slice (some ⟨b, off, none⟩) xs.length c] w fun e w' => e = .returned (.bool true) ∧ ∃ n, w' = w.drewN n := by
  have hnil := fun (W : World) (a : Option Addr) (n c n' c' : Nat) => Lib.run_eql_slice_nil (P := Try.prog) W 40 67 a n c n' c' Try.underlying40
  have hnil2 := fun (W : World) (a : Option Addr) (n c n' c' : Nat) => Lib.run_eql_slice_nil (P := Try.prog) W 62 69 a n c n' c' Try.underlying62
  go_enter Try.func26, Try.ntmps26
  go_wp2_with fail
  clear hnil hnil2
  go_loopw [5] (fun i wr => ∃ (k n : Nat), k ≤ xs.length ∧ i = .int .i64 k ∧ wr = w.drewN n) (fun i _ => xs.length - (intOf i).toNat)
  case atStart => exact ⟨0, 0, Nat.zero_le _, rfl, rfl⟩
  case round =>
    obtain ⟨k, n, hk, rfl, hwr⟩ := hrel
    subst hwr
    by_cases hlt : k < xs.length
    · obtain ⟨g0, g1⟩ := hg k hlt
      obtain ⟨d0, d1⟩ := hd k hlt
      clear hg hd
      go_wp2_with fail
      go_quiet (fail)
      go_wp2_with fail
      go_roundw
      case rel => exact ⟨k + 1, _, by omega, by go_num, rfl⟩
      case measure => simp [intOf]; omega
    · go_wp2_with fail
      go_ret
      exact ⟨rfl, n, rfl⟩

theorem sd_none (a a' : Option Addr) (c c' : Nat) (w : World) (h : a'.isNone = a.isNone) :
    Calls Try.prog 26 #[.slice a' 0 c', .slice a 0 c] w fun e w' => e = .returned (.bool true) ∧ ∃ n, w' = w.drewN n := by
  have hnil := fun (W : World) (a : Option Addr) (n c n' c' : Nat) => Lib.run_eql_slice_nil (P := Try.prog) W 40 67 a n c n' c' Try.underlying40
  have hnil2 := fun (W : World) (a : Option Addr) (n c n' c' : Nat) => Lib.run_eql_slice_nil (P := Try.prog) W 62 69 a n c n' c' Try.underlying62
  go_enter Try.func26, Try.ntmps26
  go_wp2_with fail
  clear hnil hnil2
  refine wp_loop_rounds 1 ?_
  rw [rounds_succ]
  go_wp2_with fail
  go_ret
  exact ⟨rfl, 0, rfl⟩

theorem sd_any (a a' : Option Addr) (c c' : Nat) (xs : Ds) (w : World) (hl : xs.length ≤ 9223372036854775807) (h : a'.isNone = a.isNone) (hg : Det w a' xs) (hd : Det w a xs) :
    Calls Try.prog 26 #[.slice a' xs.length c', .slice a xs.length c] w fun e w' => e = .returned (.bool true) ∧ ∃ n, w' = w.drewN n := by
  rcases hd with rfl | ⟨b, off, rfl, hc⟩
  · exact sd_none a a' c c' w h
  rcases hg with rfl | ⟨b', off', rfl, hc'⟩
  · exact sd_none _ a' c c' w h
  · exact sd_some b off b' off' c c' xs w hl hc' hc

theorem sm_nil (w : World) : Calls Try.prog 17 #[.pointer none, .pointer none] w fun e w' => e = .returned (.bool true) ∧ ∃ n, w' = w.drewN n := by
  go_enter Try.func17, Try.ntmps17
  go_wp2_with fail
  go_ret
  exact ⟨rfl, 0, rfl⟩

theorem det_drewN {w : World} {a : Option Addr} {xs : Ds} (n : Nat) (h : Det w a xs) : Det (w.drewN n) a xs := h.grown ⟨rfl, rfl, rfl, Nat.le_refl _, fun _ _ => rfl⟩

/-- zzSameMeta of a metadata and its copy. -/
theorem sm_any (g b off : Nat) (m m' : Mt) (w : World) (ho : MtOk m) (hm : MtAt w b off m) (hg : MtAt w g 0 m') (e1 : m'.p = m.p) (e2 : m'.c = m.c) (e3 : m'.t = m.t) (e4 : m'.s = m.s) (e5 : m'.pd = m.pd) (e6 : m'.cd = m.cd)
    (n1 : m'.pa.isNone = m.pa.isNone) (n2 : m'.ca.isNone = m.ca.isNone) :
    Calls Try.prog 17 #[.pointer (some ⟨g, 0, none⟩), .pointer (some ⟨b, off, none⟩)] w fun e w' => e = .returned (.bool true) ∧ ∃ n, w' = w.drewN n := by
  obtain ⟨p0, p1, p2, p3, p4, p5, p6, p7⟩ := hm
  obtain ⟨q0, q1, q2, q3, q4, q5, q6, q7⟩ := hg
  rw [e1] at q0
  rw [e2] at q1
  rw [e3] at q2
  rw [e4] at q3
  rw [e5] at q4 q6
  rw [e6] at q5 q7
  have HP := hide (fun n => sd_any m.pa m'.pa m.pc m'.pc m.pd (w.drewN n) (by have := ho.pl; omega) n1 (det_drewN n q6) (det_drewN n p6))
  have HC := hide (fun n => sd_any m.ca m'.ca m.cc m'.cc m.cd (w.drewN n) (by have := ho.cl; omega) n2 (det_drewN n q7) (det_drewN n p7))
  clear e1 e2 e3 e4 e5 e6 n1 n2 p6 p7 q6 q7 ho
  generalize m.pd.length = np at *
  generalize m.cd.length = nc at *
  go_enter Try.func17, Try.ntmps17
  go_wp2_with fail
  go_quiet ((first | (go_at_call_of 26 (Value.slice m.pa np m.pc); exact Calls.quiet_of (unhide HP _)) | (go_at_call_of 26 (Value.slice m.ca nc m.cc); exact Calls.quiet_of (unhide HC _))))
  go_wp2_with fail
  go_ret
  exact ⟨rfl, _, rfl⟩
end Go.Proofs.Qxb6604298a
