import Derived.Test.Qxb6605272aSz
import Derived.Deep.RegionHeld
/-! The walk of the law FnSqueezeKeepsUnmarkedInOrder (7). -/
namespace Go.Proofs.Qxb6605272a
open Go.RowKit
set_option maxHeartbeats 4000000
set_option maxRecDepth 100000

theorem keepL_pre (f : Nat → It) (k : Nat) : ∀ d, ∃ r, keepL f (k + d) = keepL f k ++ r
  | 0 => ⟨[], by simp⟩
  | d + 1 => by
    obtain ⟨r, hr⟩ := keepL_pre f k d
    refine ⟨r ++ (if (f (k + d)).l != 255 then [f (k + d)] else []), ?_⟩
    rw [← List.append_assoc, ← hr]
    rfl
theorem s6_grow {w W W' : World} {b o : Nat} {x1 x2 x3 x4 x5 : Value}
    (h : Below w.heap.size w W ∧ W.cell? ⟨b, o, none⟩ = some x1 ∧ W.cell? ⟨b, o + 1, none⟩ = some x2 ∧ W.cell? ⟨b, o + 2, none⟩ = some x3 ∧ W.cell? ⟨b, o + 3, none⟩ = some x4 ∧ W.cell? ⟨b, o + 4, none⟩ = some x5) (hb : Below W.heap.size W W') :
    Below w.heap.size w W' ∧ W'.cell? ⟨b, o, none⟩ = some x1 ∧ W'.cell? ⟨b, o + 1, none⟩ = some x2 ∧ W'.cell? ⟨b, o + 2, none⟩ = some x3 ∧ W'.cell? ⟨b, o + 3, none⟩ = some x4 ∧ W'.cell? ⟨b, o + 4, none⟩ = some x5 :=
  ⟨h.1.trans (hb.mono h.1.size), cell_grown hb h.2.1, cell_grown hb h.2.2.1, cell_grown hb h.2.2.2.1, cell_grown hb h.2.2.2.2.1, cell_grown hb h.2.2.2.2.2⟩

theorem keepL_at (f : Nat → It) (k n : Nat) (hk : k < n) (h : ((f k).l != 255) = true) : (keepL f k).length < (keepL f n).length ∧ endL f n (keepL f k).length = f k := by
  obtain ⟨r, hr⟩ := keepL_pre f (k + 1) (n - (k + 1))
  rw [show k + 1 + (n - (k + 1)) = n by omega, keepL_take f k h] at hr
  have hl : (keepL f k).length < (keepL f n).length := by rw [hr]; simp
  refine ⟨hl, ?_⟩
  rw [endL, dif_pos hl]
  simp only [hr]
  simp

/-- The law's walk where the lists fit. -/
theorem kp_core (a1 a2 a3 a4 a5 : Option Addr) (n1 n2 n3 n4 n5 c1 c2 c3 c4 c5 : Nat) (F : Nat → It) (dr pr : Int) (rp : Bool) (w : World)
    (hk : Vec w a2 n2 (fun i => .string (F i).k)) (hv : Vec w a3 n3 (fun i => .string (F i).v)) (hs : Vec w a1 n1 (fun i => .int .u64 (F i).s)) (hl : Vec w a4 n4 (fun i => .int .u8 (F i).l)) (hr : Vec w a5 n5 (fun i => .int .u64 (F i).r)) :
    Calls Try.prog 7 #[.slice a1 n1 c1, .slice a2 n2 c2, .slice a3 n3 c3, .slice a4 n4 c4, .slice a5 n5 c5, .int .i64 dr, .int .u64 pr, .bool rp] w fun e w' =>
      e = .returned (.bool true) ∧ Below w.heap.size w w' := by
  have H23 := hide (zb23 a1 a2 a3 a4 a5 n1 n2 n3 n4 n5 c1 c2 c3 c4 c5 (fun i => (F i).k) (fun i => (F i).v) dr pr rp w hk hv)
  have H24 := hide (fit_any a1 a2 a3 a4 a5 n1 n2 n3 n4 n5 c1 c2 c3 c4 c5 (fun i => (F i).k) (fun i => (F i).v) w hk hv)
  have HS := hide hs
  have HK := hide hk
  have HV := hide hv
  have HL := hide hl
  have HR := hide hr
  clear hs hk hv hl hr
  go_enter Try.func7, Try.ntmps7
  go_wp2_with fail
  refine (unhide H23).mono ?_
  rintro e w ⟨hsay, hw⟩
  subst hw
  rcases hsay with rfl | rfl
  rotate_left
  · go_wp2_with fail
    go_ret
    exact ⟨rfl, Below.refl _ _⟩
  go_wp2_with fail
  refine (unhide H24).mono ?_
  rintro e w ⟨hfit, hw⟩
  subst hw
  rcases hfit with ⟨rfl, rfl, rfl, rfl, rfl, hn⟩ | rfl
  rotate_left
  · go_wp2_with fail
    go_ret
    exact ⟨rfl, Below.refl _ _⟩
  go_wp2_with fail
  obtain ⟨n, rfl⟩ : ∃ n, n = n5 := ⟨_, rfl⟩
  have H5 := hide (In5.mk (unhide HS) (unhide HK) (unhide HV) (unhide HL) (unhide HR))
  have hle := keepL_le F n
  generalize hq : (keepL F n).length = q at hle
  have HQ := hide hq
  clear hq
  refine (bc_any a1 a2 a3 a4 a5 n c1 c2 c3 c4 c5 F w hn (unhide H5)).mono ?_
  rintro e w1 ⟨cb, rfl, hbc⟩
  have HBC := hide hbc
  clear hbc
  go_wp2_with fail
  refine (mk_any (some ⟨w.heap.size, 0, none⟩) (kk n) (kk n) n dr pr rp w1).mono ?_
  rintro e w2 ⟨rfl, hw2⟩
  obtain ⟨R1, R2, R3⟩ := (unhide HBC).ready dr pr rp
  rw [← hw2] at R1 R2
  have hB2 : Below w.heap.size w w2 := hw2 ▸ (unhide HBC).below.alloc (unhide HBC).below.size _
  have hs2 : w1.heap.size < w2.heap.size := by rw [hw2]; simp
  have HOL2 : Hid (∀ j, j < kk n → w2.cell? ⟨w.heap.size + 1, j, none⟩ = some (.slice (some ⟨cb j, 0, none⟩) (clen n j) (clen n j))) := hide (fun j hj => hw2 ▸ cell_grown ((Below.refl _ _).alloc (Nat.le_refl _) _) ((unhide HBC).ol j hj))
  clear hw2
  have RR := hide (And.intro R1 (And.intro R2 R3))
  have HB2 := hide hB2
  clear R1 R2 R3 hB2
  generalize hsb : w1.heap.size = sb at RR hs2 ⊢
  have HSB := hide hsb
  clear hsb
  go_wp2_with fail
  refine (sz_any sb w2 _ (sq_any sb w.heap.size (kk n) n cb (clen n) F dr pr rp w2 hn (unhide RR).1 (unhide RR).2.1 (unhide RR).2.2 (Nat.le_refl _) (fun _ _ => Nat.le_refl _))).mono ?_
  rintro e w3 ⟨rfl, hsq⟩
  have HD := hide hsq.done
  have HCS := hide hsq.cs
  have HNIL := hide hsq.nil
  have HOL : Hid (∀ j, j < kk n → w3.cell? ⟨w.heap.size + 1, j, none⟩ = some (.slice (some ⟨cb j, 0, none⟩) (clen n j) (clen n j))) := hide (fun j hj => hsq.fp.cell' (by
    intro h
    have hz := (unhide HBC).sz
    have hz2 := unhide HSB
    rcases h with h | h | ⟨i, hi, h⟩
    · omega
    · omega
    · have := (unhide HBC).lo i hi; omega) (unhide HOL2 j hj))
  have hlo : ∀ j, j < kk n → w.heap.size + 2 ≤ cb j ∧ cb j < sb := fun j hj => by have := (unhide HBC).lo j hj; rw [← unhide HSB]; exact this
  have hsw : w.heap.size + 2 ≤ sb := by rw [← unhide HSB]; exact (unhide HBC).sz
  have hB3 : Below w.heap.size w w3 := (unhide HB2).trans (hsq.below (unhide HB2).size (by omega) (Nat.le_refl _) (fun j hj => by have := hlo j hj; omega))
  have hs3 := hsq.fp.size
  have HB3 := hide hB3
  have HLO := hide hlo
  clear hsq hB3 hlo HB2
  rw [unhide HQ] at HD HNIL
  go_wp2_with fail
  refine (pt_any sb (some ⟨w.heap.size, 0, none⟩) (kk q) (kk n) (q : Int) 0 pr rp w3 (unhide HD).hd.ch (unhide HD).hd.nn (unhide HD).hd.dd (unhide HD).hd.pp (unhide HD).hd.rr).mono ?_
  rintro e w4 ⟨rfl, m4, hw4⟩
  have hD4 := (unhide HD).grown (hw4 ▸ below_dN w3 m4)
  have hB4 := (unhide HB3).trans ((hw4 ▸ below_dN w3 m4 : Below w3.heap.size w3 w4).mono (unhide HB3).size)
  have hb45 : Below w3.heap.size w3 w4 := hw4 ▸ below_dN w3 m4
  have hs4 : w4.heap.size = w3.heap.size := by rw [hw4]; rfl
  have hg1 : sb < w4.heap.size := by omega
  clear hw4 HD HB3 hs4 hs3 hs2
  have HD4 := hide hD4
  have HB4 := hide hB4
  clear hD4 hB4
  go_wp2_with fail
  refine (rs_any w.heap.size (kk n) q cb (clen n) (endL F n) w4 (by omega) (unhide HD4).hd.ou (unhide HD4).cs).mono ?_
  rintro e w5 ⟨rfl, hB5, hL5⟩
  have hD5 := (unhide HD4).grown hB5
  have HB5 := hide ((unhide HB4).trans (hB5.mono (unhide HB4).size))
  have HD5 := hide hD5
  have HL5 := hide hL5.it
  have hb35 : Below w3.heap.size w3 w5 := hb45.trans (hB5.mono hb45.size)
  have HCS5 := hide ((unhide HCS).keep (X := fun _ => False) (Fp.of_below hb35) (fun _ _ x => x))
  have HNIL5 := hide (fun j h1 h2 => cell_grown hb35 (unhide HNIL j h1 h2))
  have HOL5 := hide (fun j hj => cell_grown hb35 (unhide HOL j hj))
  clear hB5 hD5 hL5 HD4 HB4 hb35 hb45 HCS HNIL HOL HOL2
  generalize hg : w4.heap.size = g1 at HL5 hg1 ⊢
  clear hg
  go_wp2_with fail
  go_loopw [28, 29] (fun t i wr => ∃ k : Nat, k ≤ n ∧ i = .int .i64 (k : Int) ∧ t = .int .i64 ((keepL F k).length : Int) ∧ Below w5.heap.size w5 wr) (fun _ i _ => n - (intOf i).toNat)
  case atStart => exact ⟨0, Nat.zero_le _, rfl, rfl, Below.refl _ _⟩
  case round =>
    obtain ⟨k, hk, rfl, rfl, hbr⟩ := hrel
    have hlk := keepL_le F k
    have hbw := (unhide HB5).trans (hbr.mono (unhide HB5).size)
    by_cases hlt : k < n
    · have H30 := hide (fun (W : World) (hb : Below wr.heap.size wr W) => ia_any a1 a2 a3 a4 a5 n c1 c2 c3 c4 c5 k F W hlt ((unhide H5).grown (hbw.trans (hb.mono hbw.size))))
      unfold It.val at H30
      rcases unhide HL with h0 | ⟨b, off, rfl, hc⟩
      · omega
      have hck := cell_grown hbw (hc k hlt)
      clear hc
      have HSK := hide (keepL_skip F k)
      have HTK := hide (keepL_take F k)
      have HAT := hide (keepL_at F k n hlt)
      cases hm : ((F k).l != 255)
      · have HM := hide hm
        have he : ((F k).l == 255) = true := by simpa using hm
        generalize hq1 : (keepL F k).length = m at hlk ⊢
        have HQ1 := hide hq1
        generalize hll : (F k).l = l at hck hm he
        have HBR := hide hbr
        clear hq1 hbr hbw
        go_wp2_with fail
        go_roundw
        case rel => exact ⟨k + 1, by omega, by go_num, by rw [unhide HSK (unhide HM), unhide HQ1], unhide HBR⟩
        case measure => simp [intOf]; omega
      · have HM := hide hm
        have he : ((F k).l == 255) = false := by simpa using hm
        obtain ⟨hkl, hat⟩ := keepL_at F k n hlt hm
        rw [unhide HQ] at hkl
        have hx := (unhide HL5 (keepL F k).length hkl).keep (X := fun _ => False) (Fp.of_below hbr) (fun x => x)
        rw [hat] at hx
        generalize hq1 : (keepL F k).length = m at hlk hkl hx ⊢
        have HQ1 := hide hq1
        have HBR := hide hbr
        obtain ⟨x0, x1, x2, x3, x4⟩ := hx
        have hS := And.intro (Below.refl wr.heap.size wr) (And.intro x0 (And.intro x1 (And.intro x2 (And.intro x3 x4))))
        clear hq1 hbr hbw hat x0 x1 x2 x3 x4 hm
        have hdec : decide (q ≤ m) = false := by simp; omega
        have hmq : (m : Int) < (q : Int) := by omega
        go_wp2_with fail
        go_region_held (fun W => Below wr.heap.size wr W ∧ W.cell? ⟨g1, m * 5, none⟩ = some (.int .u64 (F k).s) ∧ W.cell? ⟨g1, m * 5 + 1, none⟩ = some (.string (F k).k) ∧ W.cell? ⟨g1, m * 5 + 2, none⟩ = some (.string (F k).v) ∧ W.cell? ⟨g1, m * 5 + 3, none⟩ = some (.int .u8 (F k).l) ∧ W.cell? ⟨g1, m * 5 + 4, none⟩ = some (.int .u64 (F k).r))
          (first | exact s6_grow hS (Below.refl _ _).drew | exact s6_grow (by assumption) (by assumption))
          (first | (go_at_call 30; refine (unhide H30 _ ?_).mono ?_; (exact And.left (by assumption)); rintro e w6 ⟨rfl, hb6⟩))
        go_wp2_with fail
        go_roundw
        case rel => exact ⟨k + 1, by omega, by go_num, by rw [unhide HTK (unhide HM), List.length_append, unhide HQ1]; rfl, (unhide HBR).trans (((Below.refl wr.heap.size wr).drew.trans hb6).mono (unhide HBR).size)⟩
        case measure => simp [intOf]; omega
    · obtain rfl : k = n := by omega
      rw [unhide HQ]
      have HBR := hide hbr
      clear hbr hbw hlk
      go_wp2_with fail
      generalize hW5 : wr = w6 at HBR ⊢
      clear hW5
      have hbw6 := (unhide HB5).trans ((unhide HBR).mono (unhide HB5).size)
      have HB6 := hide hbw6
      have HCS6 := hide ((unhide HCS5).keep (X := fun _ => False) (Fp.of_below (unhide HBR)) (fun _ _ x => x))
      have HNIL6 := hide (fun j h1 h2 => cell_grown (unhide HBR) (unhide HNIL5 j h1 h2))
      have HOL6 := hide (fun j hj => cell_grown (unhide HBR) (unhide HOL5 j hj))
      clear hbw6
      go_loop [30] (fun i => ∃ p : Nat, q ≤ p ∧ p ≤ k ∧ i = .int .i64 (p : Int)) (fun i => k - (intOf i).toNat)
      case atStart => exact ⟨q, Nat.le_refl _, hle, rfl⟩
      case round =>
        obtain ⟨p, hqp, hpk, rfl⟩ := hrel
        by_cases hlt : p < k
        · have h1 := kk_lt hlt
          have h2 := clen_lt hlt
          have o1 := unhide HOL6 (p / 1024) h1
          have hit := (unhide HCS6).it p hlt
          rw [show endL F k p = It.zero from by rw [endL, dif_neg (by rw [unhide HQ]; omega)]] at hit
          obtain ⟨x0, x1, x2, x3, x4⟩ := hit
          simp only [It.zero] at x0 x1 x2 x3 x4
          have hkk1 : ((p : Int) / 1024) < ((kk k : Nat) : Int) := by omega
          have hkk2 : ((p : Int) % 1024) < ((clen k (p / 1024) : Nat) : Int) := by omega
          have t1 : ((p : Int) / 1024).toNat = p / 1024 := by omega
          have t2 : ((p : Int) % 1024).toNat = p % 1024 := by omega
          generalize clen k (p / 1024) = C at hkk2 o1 h2
          generalize cb (p / 1024) = B at o1 x0 x1 x2 x3 x4
          go_wp2_with fail
          go_round
          case rel => exact ⟨p + 1, by omega, by omega, by go_num⟩
          case measure => simp [intOf]; omega
        · have hkq := kk_le hle
          go_wp2_with fail
          go_loop [31] (fun i => ∃ j : Nat, kk q ≤ j ∧ j ≤ kk k ∧ i = .int .i64 (j : Int)) (fun i => kk k - (intOf i).toNat)
          case atStart => exact ⟨kk q, Nat.le_refl _, hkq, rfl⟩
          case round =>
            obtain ⟨j, hqj, hjk, rfl⟩ := hrel
            have hkk64 : kk k ≤ 64 := by unfold kk; omega
            have hnil := fun (W : World) (a : Option Addr) (l c : Nat) => run_neq_slice_nil (P := Try.prog) (w := W) 61 66 a l c Try.underlying61
            by_cases hlj : j < kk k
            · have hc := unhide HNIL6 j hqj hlj
              have hlj' : (j : Int) < (kk k : Int) := by omega
              go_wp2_with fail
              go_round
              case rel => exact ⟨j + 1, by omega, by omega, by go_num⟩
              case measure => simp [intOf]; omega
            · go_wp2_with fail
              go_ret
              exact ⟨rfl, unhide HB6⟩
end Go.Proofs.Qxb6605272a
