import Derived.Test.Qxb6605272aSy
/-! The walk of the law FnSqueezeTwiceIsSqueezeOnce (8). -/
namespace Go.Proofs.Qxb6605272a
open Go.RowKit
set_option maxHeartbeats 4000000
set_option maxRecDepth 100000

theorem endL_again (f : Nat → It) (n : Nat) : (keepL (endL f n) (keepL f n).length).length = (keepL f n).length := by
  rw [keepL_all _ _ (fun p hp => endL_unmarked f n p hp)]; simp
theorem endL_endL (f : Nat → It) (n p : Nat) (hp : p < (keepL f n).length) : endL (endL f n) (keepL f n).length p = endL f n p := by
  have h : p < (keepL (endL f n) (keepL f n).length).length := by rw [endL_again]; exact hp
  rw [endL, dif_pos h]
  simp only [keepL_all _ _ (fun p hp => endL_unmarked f n p hp)]
  simp

theorem SqPost.again {w w' : World} {sb OB oc : Nat} {cb cp : Nat → Nat} {n : Nat} {f : Nat → It} {pr : Int} {rp : Bool} (h : SqPost w w' sb OB oc cb cp (keepL f n).length (endL f n) pr rp) : Done w' sb OB oc cb cp (keepL f n).length (endL f n) pr rp := by
  have e := h.done
  rw [endL_again] at e
  exact ⟨e.hd, e.cs.congr (fun p hp => endL_endL f n p hp)⟩

theorem SqPost.below {w w' : World} {sb OB oc : Nat} {cb cp : Nat → Nat} {n : Nat} {f : Nat → It} {pr : Int} {rp : Bool} {B : Nat} (h : SqPost w w' sb OB oc cb cp n f pr rp) (hB : B ≤ w.heap.size) (h1 : B ≤ sb) (h2 : B ≤ OB) (h3 : ∀ j, j < kk n → B ≤ cb j) : Below B w w' :=
  h.fp.below hB (fun k hk => by rcases hk with rfl | rfl | ⟨j, hj, rfl⟩; exact h1; exact h2; exact h3 j hj)

/-- The law's walk where the lists fit. -/
theorem tw_core (a1 a2 a3 a4 a5 : Option Addr) (n1 n2 n3 n4 n5 c1 c2 c3 c4 c5 : Nat) (F : Nat → It) (dr pr : Int) (rp : Bool) (w : World)
    (hk : Vec w a2 n2 (fun i => .string (F i).k)) (hv : Vec w a3 n3 (fun i => .string (F i).v)) (hs : Vec w a1 n1 (fun i => .int .u64 (F i).s)) (hl : Vec w a4 n4 (fun i => .int .u8 (F i).l)) (hr : Vec w a5 n5 (fun i => .int .u64 (F i).r)) :
    Calls Try.prog 8 #[.slice a1 n1 c1, .slice a2 n2 c2, .slice a3 n3 c3, .slice a4 n4 c4, .slice a5 n5 c5, .int .i64 dr, .int .u64 pr, .bool rp] w fun e w' =>
      e = .returned (.bool true) ∧ Below w.heap.size w w' := by
  have H31 := hide (zb31 a1 a2 a3 a4 a5 n1 n2 n3 n4 n5 c1 c2 c3 c4 c5 (fun i => (F i).k) (fun i => (F i).v) dr pr rp w hk hv)
  have H24 := hide (fit_any a1 a2 a3 a4 a5 n1 n2 n3 n4 n5 c1 c2 c3 c4 c5 (fun i => (F i).k) (fun i => (F i).v) w hk hv)
  have HS := hide hs
  have HK := hide hk
  have HV := hide hv
  have HL := hide hl
  have HR := hide hr
  clear hs hk hv hl hr
  go_enter Try.func8, Try.ntmps8
  go_wp2_with fail
  refine (unhide H31).mono ?_
  rintro e w ⟨hsay, hw⟩
  subst hw
  rcases hsay with rfl | rfl
  rotate_left
  · go_wp2_with fail
    go_ret
    exact ⟨rfl, Below.refl _ _⟩
  go_wp2_with fail
  refine (unhide H24).mono ?_
  rintro e w ⟨hfit, hw⟩
  subst hw
  rcases hfit with ⟨rfl, rfl, rfl, rfl, rfl, hn⟩ | rfl
  rotate_left
  · go_wp2_with fail
    go_ret
    exact ⟨rfl, Below.refl _ _⟩
  go_wp2_with fail
  obtain ⟨n, rfl⟩ : ∃ n, n = n5 := ⟨_, rfl⟩
  have H5 := hide (In5.mk (unhide HS) (unhide HK) (unhide HV) (unhide HL) (unhide HR))
  have HF := hide (rfl : F = F)
  go_loop [18, 19] (fun t i => ∃ (k : Nat), k ≤ n ∧ i = .int .i64 (k : Int) ∧ t = .int .i64 ((keepL F k).length : Int)) (fun _ i => n - (intOf i).toNat)
  case atStart => exact ⟨0, Nat.zero_le _, rfl, rfl⟩
  case round =>
    obtain ⟨k, hk, rfl, rfl⟩ := hrel
    have hle := keepL_le F k
    by_cases hlt : k < n
    · rcases unhide HL with h0 | ⟨b, off, rfl, hc⟩
      · omega
      have hck := hc k hlt
      clear hc
      simp only at hck
      have hsk := keepL_skip F k
      have htk := keepL_take F k
      have HSK := hide hsk
      have HTK := hide htk
      clear hsk htk
      cases hm : ((F k).l != 255)
      · have HM := hide hm
        generalize hq1 : (keepL F k).length = q at hle ⊢
        have HQ1 := hide hq1
        clear hq1
        generalize hll : (F k).l = l at hck hm
        go_wp2_with fail
        go_round
        case rel => exact ⟨k + 1, by omega, by go_num, by rw [unhide HSK (unhide HM), unhide HQ1]⟩
        case measure => simp [intOf]; omega
      · have HM := hide hm
        go_wp2_with fail
        go_round
        case rel => exact ⟨k + 1, by omega, by go_num, by rw [unhide HTK (unhide HM), List.length_append]; rfl⟩
        case measure => simp [intOf]; omega
    · obtain rfl : k = n := by omega
      generalize hq : (keepL F k).length = q at hle ⊢
      have HQ := hide hq
      clear hq
      go_wp2_with fail
      refine (bc_any a1 a2 a3 a4 a5 k c1 c2 c3 c4 c5 F w hn (unhide H5)).mono ?_
      rintro e w1 ⟨cb, rfl, hbc⟩
      have HBC := hide hbc
      clear hbc
      go_wp2_with fail
      refine (mk_any (some ⟨w.heap.size, 0, none⟩) (kk k) (kk k) k dr pr rp w1).mono ?_
      rintro e w2 ⟨rfl, hw2⟩
      obtain ⟨R1, R2, R3⟩ := (unhide HBC).ready dr pr rp
      rw [← hw2] at R1 R2
      have hB2 : Below w.heap.size w w2 := hw2 ▸ (unhide HBC).below.alloc (unhide HBC).below.size _
      have hs2 : w1.heap.size < w2.heap.size := by rw [hw2]; simp
      clear hw2
      have RR := hide (And.intro R1 (And.intro R2 R3))
      have HB2 := hide hB2
      clear R1 R2 R3 hB2
      generalize hsb : w1.heap.size = sb at RR hs2 ⊢
      have HSB := hide hsb
      clear hsb
      go_wp2_with fail
      refine (sz_any sb w2 _ (sq_any sb w.heap.size (kk k) k cb (clen k) F dr pr rp w2 hn (unhide RR).1 (unhide RR).2.1 (unhide RR).2.2 (Nat.le_refl _) (fun _ _ => Nat.le_refl _))).mono ?_
      rintro e w3 ⟨rfl, hsq⟩
      have HD := hide hsq.done
      have hlo : ∀ j, j < kk k → w.heap.size + 2 ≤ cb j ∧ cb j < sb := fun j hj => by have := (unhide HBC).lo j hj; rw [← unhide HSB]; exact this
      have hsw : w.heap.size + 2 ≤ sb := by rw [← unhide HSB]; exact (unhide HBC).sz
      have hB3 : Below w.heap.size w w3 := (unhide HB2).trans (hsq.below (unhide HB2).size (by omega) (Nat.le_refl _) (fun j hj => by have := hlo j hj; omega))
      have hs3 := hsq.fp.size
      have HB3 := hide hB3
      have HLO := hide hlo
      clear hsq hB3 hlo HB2
      rw [unhide HQ] at HD
      go_wp2_with fail
      refine (pt_any sb (some ⟨w.heap.size, 0, none⟩) (kk q) (kk k) (q : Int) 0 pr rp w3 (unhide HD).hd.ch (unhide HD).hd.nn (unhide HD).hd.dd (unhide HD).hd.pp (unhide HD).hd.rr).mono ?_
      rintro e w4 ⟨rfl, m4, hw4⟩
      have hD4 := (unhide HD).grown (hw4 ▸ below_dN w3 m4)
      have hB4 := (unhide HB3).trans ((hw4 ▸ below_dN w3 m4 : Below w3.heap.size w3 w4).mono (unhide HB3).size)
      have hs4 : w4.heap.size = w3.heap.size := by rw [hw4]; rfl
      have hg1 : sb < w4.heap.size := by omega
      clear hw4 HD HB3 hs4 hs3 hs2
      have HD4 := hide hD4
      have HB4 := hide hB4
      clear hD4 hB4
      go_wp2_with fail
      refine (rs_any w.heap.size (kk k) q cb (clen k) (endL F k) w4 (by omega) (unhide HD4).hd.ou (unhide HD4).cs).mono ?_
      rintro e w5 ⟨rfl, hB5, hL5⟩
      have hD5 := (unhide HD4).grown hB5
      have HB5 := hide ((unhide HB4).trans (hB5.mono (unhide HB4).size))
      have HD5 := hide hD5
      have HL5 := hide hL5.it
      clear hB5 hD5 hL5 HD4 HB4
      generalize hg : w4.heap.size = g1 at HL5 hg1 ⊢
      clear hg
      go_wp2_with fail
      go_loop [30] (fun i => ∃ (p : Nat), p ≤ q ∧ i = .int .i64 (p : Int)) (fun i => q - (intOf i).toNat)
      case atStart => exact ⟨0, Nat.zero_le _, rfl⟩
      case round =>
        obtain ⟨p, hp, rfl⟩ := hrel
        by_cases hpq : p < q
        · have hcl := (unhide HL5 p hpq).l
          have hum : ((endL F k p).l == 255) = false := by have := endL_unmarked F k p (by rw [unhide HQ]; exact hpq); simpa using this
          generalize (endL F k p).l = l at hcl hum
          go_wp2_with fail
          go_round
          case rel => exact ⟨p + 1, by omega, by go_num⟩
          case measure => simp [intOf]; omega
        · go_wp2_with fail
          have hq := unhide HQ
          have hD5 := unhide HD5
          have h34 := sq_any sb w.heap.size (kk k) q cb (clen k) (endL F k) 0 pr rp w5 (by omega) hD5.hd hD5.cs ((unhide RR).2.2.le (kk_le hle)) (kk_le hle) (fun j _ => clen_le hle)
          rw [← hq] at h34
          refine (sz_any sb w5 _ h34).mono ?_
          rintro e w6 ⟨rfl, hsq⟩
          have hD6 := hsq.again
          have hlo := unhide HLO
          have hkk := kk_le hle
          have hX : ∀ p, p < q → ItAt w6 g1 (p * 5) (endL F k p) := fun p hp => (unhide HL5 p hp).keep hsq.fp (by
            intro h
            rcases h with h | h | ⟨j, hj, h⟩
            · omega
            · omega
            · have := hlo j (by rw [hq] at hj; omega)
              omega)
          have hB6 := (unhide HB5).trans (hsq.below (unhide HB5).size (by omega) (Nat.le_refl _) (fun j hj => by have := hlo j (by rw [hq] at hj; omega); omega))
          rw [hq] at hD6
          have HB6 := hide hB6
          have HD6 := hide hD6
          have HL6 := hide hX
          clear hB6 hD6 hX hsq hD5 h34 HD5 HB5 HL5 hlo hkk hq
          go_wp2_with fail
          refine (pt_any sb (some ⟨w.heap.size, 0, none⟩) (kk q) (kk k) (q : Int) 0 pr rp w6 (unhide HD6).hd.ch (unhide HD6).hd.nn (unhide HD6).hd.dd (unhide HD6).hd.pp (unhide HD6).hd.rr).mono ?_
          rintro e w7 ⟨rfl, m7, hw7⟩
          have hb7 : Below w6.heap.size w6 w7 := hw7 ▸ below_dN w6 m7
          have HD7 := hide ((unhide HD6).grown hb7)
          have HB7 := hide ((unhide HB6).trans (hb7.mono (unhide HB6).size))
          have HL7 := hide (fun p hp => (unhide HL6 p hp).keep (X := fun _ => False) (Fp.of_below hb7) (fun x => x))
          clear hw7 hb7 HD6 HB6 HL6
          go_wp2_with fail
          refine (rs_any w.heap.size (kk k) q cb (clen k) (endL F k) w7 (by omega) (unhide HD7).hd.ou (unhide HD7).cs).mono ?_
          rintro e w8 ⟨rfl, hb8, hL8⟩
          have HB8 := hide ((unhide HB7).trans (hb8.mono (unhide HB7).size))
          have HL8 := hide (fun p hp => (unhide HL7 p hp).keep (X := fun _ => False) (Fp.of_below hb8) (fun x => x))
          have HM8 := hide hL8.it
          generalize hg : w7.heap.size = g2 at HM8 ⊢
          clear hg hb8 hL8 HD7 HB7 HL7
          go_wp2_with fail
          go_loopw [38] (fun i wr => ∃ (p : Nat), p ≤ q ∧ i = .int .i64 (p : Int) ∧ Below w8.heap.size w8 wr) (fun i _ => q - (intOf i).toNat)
          case atStart => exact ⟨0, Nat.zero_le _, rfl, Below.refl _ _⟩
          case round =>
            obtain ⟨p, hp, rfl, hbr⟩ := hrel
            by_cases hpq : p < q
            · obtain ⟨x0, x1, x2, x3, x4⟩ := (unhide HL8 p hpq).keep (X := fun _ => False) (Fp.of_below hbr) (fun x => x)
              obtain ⟨y0, y1, y2, y3, y4⟩ := (unhide HM8 p hpq).keep (X := fun _ => False) (Fp.of_below hbr) (fun x => x)
              generalize endL F k p = t at x0 x1 x2 x3 x4 y0 y1 y2 y3 y4
              have HBR := hide hbr
              clear hbr
              go_wp2_with fail
              go_quiet (fail)
              go_wp2_with fail
              go_roundw
              case rel => exact ⟨p + 1, by omega, by go_num, (unhide HBR).trans ((below_dN _ _).mono (unhide HBR).size)⟩
              case measure => simp [intOf]; omega
            · go_wp2_with fail
              go_ret
              exact ⟨rfl, (unhide HB8).trans (hbr.mono (unhide HB8).size)⟩
end Go.Proofs.Qxb6605272a
