import Derived.Test.Qxb6604298aWc
namespace Go.Proofs.Qxb6604298a
open Go.RowKit
set_option maxHeartbeats 1000000

theorem wrap_i64_eq (n : Int) : IntKind.i64.wrap n = wrap64 n := by rw [IntKind.wrap_i64]; unfold wrap64; rfl

theorem su_step {w W W' : World} {b : Nat} {x0 x1 x2 x3 : Value}
    (h : Below w.heap.size w W ∧ W.cell? ⟨b, 0, none⟩ = some x0 ∧ W.cell? ⟨b, 0 + 1, none⟩ = some x1 ∧ W.cell? ⟨b, 0 + 2, none⟩ = some x2 ∧ W.cell? ⟨b, 0 + 3, none⟩ = some x3)
    (hb : Below W.heap.size W W') :
    Below w.heap.size w W' ∧ W'.cell? ⟨b, 0, none⟩ = some x0 ∧ W'.cell? ⟨b, 0 + 1, none⟩ = some x1 ∧ W'.cell? ⟨b, 0 + 2, none⟩ = some x2 ∧ W'.cell? ⟨b, 0 + 3, none⟩ = some x3 := by
  obtain ⟨h, c0, c1, c2, c3⟩ := h
  exact ⟨h.trans (hb.mono h.size), cell_grown hb c0, cell_grown hb c1, cell_grown hb c2, cell_grown hb c3⟩

/-- usageOf of a metadata at the head of a block. -/
theorem uo_any (b : Nat) (p c t s : Int) (w : World)
    (h0 : w.cell? ⟨b, 0, none⟩ = some (.int .i64 p)) (h1 : w.cell? ⟨b, 0 + 1, none⟩ = some (.int .i64 c)) (h2 : w.cell? ⟨b, 0 + 2, none⟩ = some (.int .i64 t)) (h3 : w.cell? ⟨b, 0 + 3, none⟩ = some (.int .i64 s)) :
    Calls Try.prog 24 #[.pointer (some ⟨b, 0, none⟩)] w fun e w' => e = .returned (.pointer (some ⟨w.heap.size, 0, none⟩)) ∧
      w' = (w.alloc (.cells #[.int .i64 p, .int .i64 (wrap64 (c + t)), .int .i64 s, .int .i64 t, .pointer none] 35)).drew := by
  have hS : Below w.heap.size w w ∧ w.cell? ⟨b, 0, none⟩ = some (.int .i64 p) ∧ w.cell? ⟨b, 0 + 1, none⟩ = some (.int .i64 c) ∧ w.cell? ⟨b, 0 + 2, none⟩ = some (.int .i64 t) ∧ w.cell? ⟨b, 0 + 3, none⟩ = some (.int .i64 s) :=
    ⟨Below.refl _ _, h0, h1, h2, h3⟩
  clear h0 h1 h2 h3
  go_enter Try.func24, Try.ntmps24
  go_wp2_with fail
  go_region_held (fun W => Below w.heap.size w W ∧ W.cell? ⟨b, 0, none⟩ = some (.int .i64 p) ∧ W.cell? ⟨b, 0 + 1, none⟩ = some (.int .i64 c) ∧ W.cell? ⟨b, 0 + 2, none⟩ = some (.int .i64 t) ∧ W.cell? ⟨b, 0 + 3, none⟩ = some (.int .i64 s))
    (first | exact su_step hS (Below.refl _ _).drew | exact su_step (by assumption) ((Below.refl _ _).alloc (Nat.le_refl _) _))
    (fail)
  go_wp2_with fail
  go_ret
  exact ⟨rfl, by rw [wrap_i64_eq]⟩

/-- usageOf of nil. -/
theorem uo_nil (w : World) : Calls Try.prog 24 #[.pointer none] w fun e w' => e = .returned (.pointer none) ∧ w' = w := by
  go_enter Try.func24, Try.ntmps24
  go_wp2
  go_ret
  exact ⟨rfl, rfl⟩

/-- TokensOf at the word IMAGE, over a slice that is not nil: it boxes each element, round by round. -/
theorem tok_some (b off cap : Nat) (xs : Ds) (w : World) (hl : xs.length ≤ 9223372036854775807)
    (hd : ∀ i (h : i < xs.length), w.cell? ⟨b, off + i * 2, none⟩ = some (.string xs[i].1) ∧ w.cell? ⟨b, off + i * 2 + 1, none⟩ = some (.int .i64 xs[i].2)) :
    Calls Try.prog 27 #[.slice (some ⟨b, off, none⟩) xs.length cap, .string ⟨#[73, 77, 65, 71, 69]⟩] w fun e w' => e = .returned (.int .i64 (wrap64 (isum xs))) ∧ Below w.heap.size w w' := by
  go_enter Try.func27, Try.ntmps27
  go_wp2
  go_loopw [5, 10] (fun n i wr => ∃ k : Nat, k ≤ xs.length ∧ i = .int .i64 k ∧ n = .int .i64 (wrap64 (isum (xs.take k))) ∧ Below w.heap.size w wr) (fun _ i _ => xs.length - (intOf i).toNat)
  case atStart => exact ⟨0, Nat.zero_le _, rfl, by simp [isum, wrap64_zero], Below.refl _ _⟩
  case round =>
    obtain ⟨k, hk, rfl, rfl, hbr⟩ := hrel
    by_cases hlt : k < xs.length
    · have hc0 := cell_grown hbr (hd k hlt).1
      have hc1 := cell_grown hbr (hd k hlt).2
      have HS' := hide (isum_snoc xs k hlt)
      clear hd
      go_wp2
      all_goals
        refine ⟨⟨k + 1, by omega, by go_num, ?_, hbr.alloc hbr.size _⟩, by simp [intOf]; omega⟩
        rw [HS'.out]
      · rw [if_pos (by unfold isImg; assumption), wrap64_wadd]
      · rw [if_neg (by unfold isImg; simp_all)]; simp
    · go_wp2
      go_ret
      exact ⟨ret_int (by rw [List.take_of_length_le (by omega)]), hbr⟩

theorem tok_none (a : Option Addr) (cap : Nat) (v : Value) (w : World) :
    Calls Try.prog 27 #[.slice a 0 cap, v] w fun e w' => e = .returned (.int .i64 0) ∧ w' = w := by
  go_enter Try.func27, Try.ntmps27
  go_wp2
  refine wp_loop_rounds 1 ?_
  rw [rounds_succ]
  go_wp2
  go_ret
  exact ⟨rfl, rfl⟩

theorem tok_any (a : Option Addr) (cap : Nat) (xs : Ds) (w : World) (hl : xs.length ≤ 9223372036854775807) (hd : Det w a xs) :
    Calls Try.prog 27 #[.slice a xs.length cap, .string ⟨#[73, 77, 65, 71, 69]⟩] w fun e w' => e = .returned (.int .i64 (wrap64 (isum xs))) ∧ Below w.heap.size w w' := by
  rcases hd with rfl | ⟨b, off, rfl, hc⟩
  · exact (tok_none a cap _ w).mono fun e w' ⟨h1, h2⟩ => ⟨by rw [h1]; simp [isum, wrap64_zero], h2 ▸ Below.refl _ _⟩
  · exact tok_some b off cap xs w hl hc

end Go.Proofs.Qxb6604298a
