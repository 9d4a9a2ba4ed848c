import Derived.Test.Qxb6605272aSv
/-! Rows of writes of one's own; readSettled (29). -/
namespace Go.Proofs.Qxb6605272a
open Go.RowKit
set_option maxHeartbeats 4000000
set_option maxRecDepth 100000

theorem Try.info66 : (Try.prog.info? 66).map (fun i => (i.zero, i.size, i.bytes)) = some (some (.agg #[.int .u64 0, .string ⟨#[]⟩, .string ⟨#[]⟩, .int .u8 0, .int .u64 0]), 5, 56) := by kernel_rfl

theorem set5_here (w : World) (B i : Nat) (t : It) (h : ∀ j, j < 5 → ∃ v, w.cell? ⟨B, i + j, none⟩ = some v) : ItAt (set5 w B i t) B i t := by
  obtain ⟨v0, h0⟩ := h 0 (by omega)
  obtain ⟨v1, h1⟩ := h 1 (by omega)
  obtain ⟨v2, h2⟩ := h 2 (by omega)
  obtain ⟨v3, h3⟩ := h 3 (by omega)
  obtain ⟨v4, h4⟩ := h 4 (by omega)
  rw [Nat.add_zero] at h0
  unfold set5
  refine ⟨?_, ?_, ?_, ?_, ?_⟩
  all_goals (simp [World.cell?_setCell_other, World.cell?_setCell_same', h0, h1, h2, h3, h4]; done)

/-- A row of one's own with room for n writes; the first k hold f. -/
structure Ls (w : World) (g n k : Nat) (f : Nat → It) : Prop where
  there : ∀ j, j < n * 5 → ∃ v, w.cell? ⟨g, j, none⟩ = some v
  fr : ∀ j, w.frozen? ⟨g, j, none⟩ = false
  it : ∀ p, p < k → ItAt w g (p * 5) (f p)

theorem ItAt.drew {w : World} {B i : Nat} {t : It} (h : ItAt w B i t) : ItAt w.drew B i t := ⟨h.s, h.k, h.v, h.l, h.r⟩
theorem Ls.drew {w : World} {g n k : Nat} {f : Nat → It} (h : Ls w g n k f) : Ls w.drew g n k f := ⟨h.there, h.fr, fun p hp => (h.it p hp).drew⟩
theorem Ls.keep {X : Nat → Prop} {w w' : World} {g n k : Nat} {f : Nat → It} (hf : Fp X w w') (hx : ¬ X g) (hg : g < w.heap.size) (h : Ls w g n k f) : Ls w' g n k f :=
  ⟨fun j hj => by obtain ⟨v, hv⟩ := h.there j hj; exact ⟨v, hf.cell' hx hv⟩, fun j => by rw [hf.frozen hg hx]; exact h.fr j, fun p hp => (h.it p hp).keep hf hx⟩
theorem Ls.set {w : World} {g n k : Nat} {f : Nat → It} (h : Ls w g n k f) (hk : k < n) : Ls (set5 w g (k * 5) (f k)) g n (k + 1) f := by
  have hh : ItAt (set5 w g (k * 5) (f k)) g (k * 5) (f k) := set5_here _ _ _ _ (fun j hj => h.there _ (by omega))
  refine ⟨fun j hj => ?_, fun j => by rw [set5_frozen]; exact h.fr j, fun p hp => ?_⟩
  · by_cases e : j < k * 5 ∨ k * 5 + 5 ≤ j
    · rw [set5_other _ _ _ _ _ _ (fun _ => e)]; exact h.there j hj
    · have : j = k * 5 ∨ j = k * 5 + 1 ∨ j = k * 5 + 2 ∨ j = k * 5 + 3 ∨ j = k * 5 + 4 := by omega
      rcases this with rfl | rfl | rfl | rfl | rfl
      · exact ⟨_, hh.s⟩
      · exact ⟨_, hh.k⟩
      · exact ⟨_, hh.v⟩
      · exact ⟨_, hh.l⟩
      · exact ⟨_, hh.r⟩
  · by_cases e : p = k
    · subst e; exact hh
    · obtain ⟨h0, h1, h2, h3, h4⟩ := h.it p (by omega)
      exact ⟨by rw [set5_other _ _ _ _ _ _ (fun _ => by omega)]; exact h0, by rw [set5_other _ _ _ _ _ _ (fun _ => by omega)]; exact h1, by rw [set5_other _ _ _ _ _ _ (fun _ => by omega)]; exact h2,
        by rw [set5_other _ _ _ _ _ _ (fun _ => by omega)]; exact h3, by rw [set5_other _ _ _ _ _ _ (fun _ => by omega)]; exact h4⟩
theorem Ls.new (w : World) (n : Nat) (f : Nat → It) : Ls (w.alloc (.cells (madeCells (Value.agg #[.int .u64 0, .string ⟨#[]⟩, .string ⟨#[]⟩, .int .u8 0, .int .u64 0]).cells (n * 5)) 66)) w.heap.size n 0 f := by
  refine ⟨fun j hj => ?_, fun j => by simp, fun p hp => by omega⟩
  simp [World.cell?_alloc_at, size_madeCells, hj]

/-- readSettled of chunks that are laid out well: a fresh row that holds the writes. -/
theorem rs_any (OB oc n : Nat) (cb cp : Nat → Nat) (f : Nat → It) (w : World) (hn : n ≤ 65536)
    (ou : ∀ j, j < kk n → w.cell? ⟨OB, j, none⟩ = some (.slice (some ⟨cb j, 0, none⟩) (clen n j) (cp j))) (hc : Cs w cb n f) :
    Calls Try.prog 29 #[.slice (some ⟨OB, 0, none⟩) (kk n) oc, .int .i64 (n : Int)] w fun e w' =>
      e = .returned (.tuple #[.slice (some ⟨w.heap.size, 0, none⟩) n n, .bool true]) ∧ Below w.heap.size w w' ∧ Ls w' w.heap.size n n f := by
  obtain ⟨i0, hi, hz0, hz1, hz2⟩ := info_parts Try.info66
  have hmk := fun (W : World) => run_make (P := Try.prog) W 61 66 i0 _ Try.underlying61 hi hz0 .i64 .i64 (n : Int) (n : Int) (by omega) (by omega) (by rw [hz2]; omega) (by omega)
  simp only [hz1, Int.toNat_natCast] at hmk
  have HMK := hide hmk
  have HOU := hide ou
  have HC := hide hc
  clear hi hz0 hz1 hz2 hmk ou hc
  have hk0 : ((n : Int) + 1024 - 1) / 1024 = ((kk n : Nat) : Int) := by unfold kk; omega
  have hkk : kk n ≤ 64 := by unfold kk; omega
  go_enter Try.func29, Try.ntmps29
  go_wp2_with fail
  simp only [hk0]
  go_loop [7] (fun i => ∃ j : Nat, j ≤ kk n ∧ i = .int .i64 (j : Int)) (fun i => kk n - (intOf i).toNat)
  case atStart => exact ⟨0, Nat.zero_le _, rfl⟩
  case round =>
    obtain ⟨j, hj, rfl⟩ := hrel
    by_cases hlt : j < kk n
    · have hcell := unhide HOU j hlt
      have hlt' : (j : Int) < (kk n : Int) := by omega
      by_cases he : j + 1 = kk n
      · have e2 : ((clen n j : Nat) : Int) = (n : Int) - (j : Int) * 1024 := by unfold kk at he; unfold clen; omega
        have e3 : 0 ≤ (n : Int) - (j : Int) * 1024 := by omega
        have hj64 : j ≤ 64 := by omega
        generalize clen n j = c at hcell e2
        generalize kk n = K at hlt hlt' hj he hkk ⊢
        obtain rfl : K = j + 1 := by omega
        clear hlt hlt' hj he hkk
        go_wp2
        go_round
        case rel => exact ⟨j + 1, by omega, by go_num⟩
        case measure => simp [intOf]
      · have e1 : ((j : Int) == (kk n : Int) - 1) = false := beq_false_of_ne (by omega)
        have e2 : clen n j = 1024 := by unfold kk at he hlt; unfold clen; omega
        rw [e2] at hcell
        clear he e2
        go_wp2
        go_round
        case rel => exact ⟨j + 1, by omega, by go_num⟩
        case measure => simp [intOf]; omega
    · go_wp2_with (simp only [unhide HMK])
      have HL := hide (Ls.new w n f)
      have HB : Below w.heap.size w (w.alloc (.cells (madeCells (Value.agg #[.int .u64 0, .string ⟨#[]⟩, .string ⟨#[]⟩, .int .u8 0, .int .u64 0]).cells (n * 5)) 66)) := (Below.refl _ _).alloc (Nat.le_refl _) _
      go_loopw [10] (fun i wr => ∃ k : Nat, k ≤ n ∧ i = .int .i64 (k : Int) ∧ Below w.heap.size w wr ∧ Ls wr w.heap.size n k f) (fun i _ => n - (intOf i).toNat)
      case atStart => exact ⟨0, Nat.zero_le _, rfl, HB, unhide HL⟩
      case round =>
        obtain ⟨k, hk, rfl, hb, hl⟩ := hrel
        by_cases hkn : k < n
        · have h1 := kk_lt hkn
          have h2 := clen_lt hkn
          have o1 := cell_grown hb (unhide HOU (k / 1024) h1)
          obtain ⟨q0, q1, q2, q3, q4⟩ := (unhide HC).it k hkn
          replace q0 := cell_grown hb q0
          replace q1 := cell_grown hb q1
          replace q2 := cell_grown hb q2
          replace q3 := cell_grown hb q3
          replace q4 := cell_grown hb q4
          obtain ⟨v0, r0⟩ := hl.there (k * 5) (by omega)
          obtain ⟨v1, r1⟩ := hl.there (k * 5 + 1) (by omega)
          obtain ⟨v2, r2⟩ := hl.there (k * 5 + 2) (by omega)
          obtain ⟨v3, r3⟩ := hl.there (k * 5 + 3) (by omega)
          obtain ⟨v4, r4⟩ := hl.there (k * 5 + 4) (by omega)
          have fz := hl.fr
          have HL2 := hide hl
          have HB2 := hide hb
          clear hl hb HB
          have hkk1 : ((k : Int) / 1024) < ((kk n : Nat) : Int) := by omega
          have hkk2 : ((k : Int) % 1024) < ((clen n (k / 1024) : Nat) : Int) := by omega
          have t1 : ((k : Int) / 1024).toNat = k / 1024 := by omega
          have t2 : ((k : Int) % 1024).toNat = k % 1024 := by omega
          generalize kk n = K at hkk1 hlt hj h1 hkk ⊢
          generalize clen n (k / 1024) = C at hkk2 o1 h2
          generalize cb (k / 1024) = B at o1 q0 q1 q2 q3 q4
          generalize hg : w.heap.size = g at r0 r1 r2 r3 r4 fz ⊢
          go_wp2_with fail
          go_roundw
          case rel =>
            subst hg
            exact ⟨k + 1, by omega, by go_num, (unhide HB2).trans ((set5_fp (X := fun b => b = w.heap.size) (B := w.heap.size) (i := k * 5) (t := f k) rfl).below (unhide HB2).size (fun b hb => by omega)), (unhide HL2).set hkn⟩
          case measure => simp [intOf]; omega
        · obtain rfl : k = n := by omega
          go_wp2_with fail
          go_ret2
          exact ⟨rfl, hb, hl⟩
end Go.Proofs.Qxb6605272a
