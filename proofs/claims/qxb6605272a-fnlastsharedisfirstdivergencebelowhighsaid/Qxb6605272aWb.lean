import Derived.Test.Qxb6605272aWa
/-! lastShared (32), ZZLastShared (11). -/
namespace Go.Proofs.Qxb6605272a
open Go.RowKit
set_option maxHeartbeats 1000000
set_option maxRecDepth 100000

/-- Both put a write at s on one branch. -/
def sharedB (xs ys : Hs) (s : Int) : Bool := brOk xs s && brOk ys s && (brId xs s == brId ys s)
/-- One entry of a history, looked at. -/
def stepS (xs ys : Hs) (sh : Int) (e : Int × Int) : Int := if sh < e.2 + 1 then sh else if sharedB xs ys (e.2 + 1) = true then sh else e.2
def foldS (xs ys : Hs) (sh : Int) (zs : Hs) : Int := zs.foldl (stepS xs ys) sh

theorem foldS_append (xs ys : Hs) (sh : Int) (us vs : Hs) : foldS xs ys sh (us ++ vs) = foldS xs ys (foldS xs ys sh us) vs := by
  unfold foldS; rw [List.foldl_append]
theorem foldS_snoc (xs ys : Hs) (sh : Int) (zs : Hs) (k : Nat) (h : k < zs.length) : foldS xs ys sh (zs.take (k + 1)) = stepS xs ys (foldS xs ys sh (zs.take k)) zs[k] := by
  rw [List.take_succ_eq_append_getElem h, foldS_append]; simp [foldS]

/-- The entries fit, and none begins at the last number. -/
def HOk (xs : Hs) : Prop := ∀ i (h : i < xs.length), 0 ≤ xs[i].2 ∧ xs[i].2 ≤ 18446744073709551614

theorem foldS_bd (xs ys : Hs) (sh : Int) (zs : Hs) (hz : HOk zs) (h0 : 0 ≤ sh) : 0 ≤ foldS xs ys sh zs ∧ foldS xs ys sh zs ≤ sh := by
  induction zs generalizing sh with
  | nil => simp [foldS, h0]
  | cons e zs ih =>
    have he := hz 0 (by simp)
    simp at he
    have hz' : HOk zs := fun i hi => by have := hz (i + 1) (by simpa using hi); simpa using this
    have hs : 0 ≤ stepS xs ys sh e ∧ stepS xs ys sh e ≤ sh := by
      unfold stepS
      split
      · omega
      · split <;> omega
    have := ih (stepS xs ys sh e) hz' hs.1
    have e1 : foldS xs ys sh (e :: zs) = foldS xs ys (stepS xs ys sh e) zs := rfl
    rw [e1]
    omega

/-- What has been looked at before round k of the outer loop. -/
def pre (xs ys : Hs) : Nat → Hs
  | 0 => []
  | 1 => xs
  | _ => xs ++ ys

theorem pick2 {wr w : World} {B : Nat} {a a' : Option Addr} {cap cap' : Nat} {xs ys : Hs} (hl : xs.length ≤ 9223372036854775807) (hl' : ys.length ≤ 9223372036854775807)
    (ha : Hist w a xs) (hb : Hist w a' ys) (hx : HOk xs) (hy : HOk ys) (c0 : wr.cell? ⟨B, 0, none⟩ = some (.slice a xs.length cap)) (c1 : wr.cell? ⟨B, 1, none⟩ = some (.slice a' ys.length cap')) (k : Nat) (hk : k < 2) :
    ∃ av cv zs, wr.cell? ⟨B, k, none⟩ = some (.slice av (List.length zs) cv) ∧ Hist w av zs ∧ HOk zs ∧ zs.length ≤ 9223372036854775807 ∧ pre xs ys (k + 1) = pre xs ys k ++ zs := by
  rcases (show k = 0 ∨ k = 1 by omega) with rfl | rfl
  · exact ⟨a, cap, xs, c0, ha, hx, hl, by simp [pre]⟩
  · exact ⟨a', cap', ys, c1, hb, hy, hl', by simp [pre]⟩

theorem ls_core (a a' : Option Addr) (cap cap' : Nat) (xs ys : Hs) (high : Int) (w : World) (hl : xs.length ≤ 9223372036854775807) (hl' : ys.length ≤ 9223372036854775807)
    (ha : Hist w a xs) (hb : Hist w a' ys) (hx : HOk xs) (hy : HOk ys) (h0 : 0 ≤ high) (h1 : high ≤ 18446744073709551615) :
    Calls Try.prog 32 #[.slice a xs.length cap, .slice a' ys.length cap', .int .u64 high] w fun e w' => e = .returned (.int .u64 (foldS xs ys high (xs ++ ys))) ∧ Below w.heap.size w w' := by
  have HA := hide ha
  have HB := hide hb
  have HX := hide hx
  have HY := hide hy
  clear ha hb hx hy
  go_enter Try.func32, Try.ntmps32
  go_wp2
  go_loopw [7, 22] (fun sh i wr => ∃ k : Nat, k ≤ 2 ∧ i = .int .i64 k ∧ sh = .int .u64 (foldS xs ys high (pre xs ys k)) ∧ 0 ≤ foldS xs ys high (pre xs ys k) ∧ foldS xs ys high (pre xs ys k) ≤ 18446744073709551615 ∧ Below w.heap.size w wr ∧ w.heap.size < wr.heap.size ∧
      wr.cell? ⟨w.heap.size, 0, none⟩ = some (.slice a xs.length cap) ∧ wr.cell? ⟨w.heap.size, 1, none⟩ = some (.slice a' ys.length cap')) (fun _ i _ => 2 - (intOf i).toNat)
  case atStart => exact ⟨0, by omega, rfl, by simp [foldS, pre], by simp [foldS, pre]; omega, by simp [foldS, pre]; omega, (Below.refl _ _).alloc (Nat.le_refl _) _, by simp, by simp, by simp⟩
  case round =>
    obtain ⟨k, hk, rfl, rfl, hs0, hs1, hbr, hgr, c0, c1⟩ := hrel
    obtain ⟨wo, rfl⟩ : ∃ wo : World, wo = wr := ⟨_, rfl⟩
    by_cases hlt : k < 2
    · obtain ⟨av, cv, zs, ck, hz, hzo, hzl, hpre⟩ := pick2 hl hl' (unhide HA) (unhide HB) (unhide HX) (unhide HY) c0 c1 k hlt
      have HZ := hide hz
      have HZO := hide hzo
      have HPRE := hide hpre
      have HC := hide (And.intro c0 c1)
      generalize hS : foldS xs ys high (pre xs ys k) = S at *
      have HS := hide hS
      clear hz hzo hpre c0 c1 hS
      have hd2 : decide ((k : Int) < 2) = true := by simp; omega
      go_wp2
      go_loopw [7, 28] (fun sh i wi => ∃ j : Nat, j ≤ zs.length ∧ i = .int .i64 j ∧ sh = .int .u64 (foldS xs ys S (zs.take j)) ∧ Below wo.heap.size wo wi) (fun _ i _ => zs.length - (intOf i).toNat)
      case atStart => exact ⟨0, Nat.zero_le _, rfl, by simp [foldS], Below.refl _ _⟩
      case round =>
        obtain ⟨j, hj, rfl, rfl, hbi⟩ := hrel
        by_cases hjt : j < zs.length
        · have hbw : Below w.heap.size w wr := hbr.trans (hbi.mono hbr.size)
          rcases unhide HZ with h0 | ⟨b', o', hav, hc⟩
          · rw [h0] at hjt; simp at hjt
          have d0 := cell_grown hbw (hc j hjt).1
          have d1 := cell_grown hbw (hc j hjt).2
          have hzj := unhide HZO j hjt
          have HSN := hide (foldS_snoc xs ys S zs j hjt)
          have hbd := foldS_bd xs ys S (zs.take j) (fun i hi => by simp only [List.getElem_take]; exact unhide HZO i (by simp at hi; omega)) hs0
          have HBW := hide hbw
          have HBI := hide hbi
          clear hc hbw hbi
          subst hav
          generalize foldS xs ys S (zs.take j) = T at *
          obtain ⟨e1, e2⟩ : ∃ e1 : Int × Int, e1 = zs[j] := ⟨_, rfl⟩
          rw [← e2] at d0 d1 hzj HSN
          obtain ⟨id, sq⟩ := e1
          simp only at d0 d1 hzj
          clear e2
          have hw1 : IntKind.u64.wrap (sq + 1) = sq + 1 := by rw [IntKind.wrap_u64]; omega
          have hw2 : IntKind.u64.wrap (sq + 1 - 1) = sq := by rw [IntKind.wrap_u64]; omega
          by_cases hT : T < sq + 1
          · go_wp2_with fail
            go_roundw
            case rel => exact ⟨j + 1, by omega, by go_num, by rw [unhide HSN]; simp [stepS, hT], (unhide HBI).alloc (unhide HBI).size _⟩
            case measure => simp [intOf]; omega
          · have hA := ba_any a cap xs (sq + 1) (wr.alloc (.cells #[.int .u64 id, .int .u64 sq] 35)) hl (((unhide HA).grown (unhide HBW)).grown ((Below.refl _ _).alloc (Nat.le_refl _) _))
            go_wp2_with fail
            refine hA.mono ?_
            rintro e w1 ⟨rfl, hb1⟩
            have hb1' : Below wr.heap.size wr w1 := ((Below.refl _ _).alloc (Nat.le_refl _) _).trans (hb1.mono (by simp))
            have hB := ba_any a' cap' ys (sq + 1) w1 hl' (((unhide HB).grown (unhide HBW)).grown hb1')
            have HB1 := hide hb1'
            clear hA hb1 hb1'
            go_wp2_with fail
            refine hB.mono ?_
            rintro e w2 ⟨rfl, hb2⟩
            have HB2 := hide ((unhide HBI).trans (((unhide HB1).trans (hb2.mono (unhide HB1).size)).mono (unhide HBI).size))
            clear hB hb2 HB1
            have HST := hide (show stepS xs ys T (id, sq) = if sharedB xs ys (sq + 1) = true then T else sq by simp only [stepS, if_neg (show ¬ T < sq + 1 by omega)])
            have HSH := hide (show sharedB xs ys (sq + 1) = (brOk xs (sq + 1) && brOk ys (sq + 1) && (brId xs (sq + 1) == brId ys (sq + 1))) from rfl)
            cases hoa : brOk xs (sq + 1)
            · go_wp2_with fail
              go_roundw
              case rel => exact ⟨j + 1, by omega, by go_num, by rw [unhide HSN, unhide HST, unhide HSH]; simp [hoa], unhide HB2⟩
              case measure => simp [intOf]; omega
            cases hob : brOk ys (sq + 1)
            · go_wp2_with fail
              go_roundw
              case rel => exact ⟨j + 1, by omega, by go_num, by rw [unhide HSN, unhide HST, unhide HSH]; simp [hob], unhide HB2⟩
              case measure => simp [intOf]; omega
            cases hi : (brId xs (sq + 1) != brId ys (sq + 1))
            · go_wp2_with fail
              go_roundw
              case rel => exact ⟨j + 1, by omega, by go_num, by (have hq : brId xs (sq + 1) = brId ys (sq + 1) := (by simpa using hi); rw [unhide HSN, unhide HST, unhide HSH]; simp [hoa, hob, hq]), unhide HB2⟩
              case measure => simp [intOf]; omega
            · go_wp2_with fail
              go_roundw
              case rel => exact ⟨j + 1, by omega, by go_num, by (have hq : ¬ brId xs (sq + 1) = brId ys (sq + 1) := (by simpa using hi); rw [unhide HSN, unhide HST, unhide HSH]; simp [hoa, hob, hq]), unhide HB2⟩
              case measure => simp [intOf]; omega
        · obtain rfl : j = zs.length := by omega
          have hbd := foldS_bd xs ys S zs (unhide HZO) hs0
          rw [List.take_length]
          have hfin : foldS xs ys high (pre xs ys (k + 1)) = foldS xs ys S zs := by rw [unhide HPRE, foldS_append, unhide HS]
          have HFIN := hide hfin
          have HBI := hide hbi
          clear hfin hbi
          go_wp2_with fail
          go_roundw
          case rel =>
            refine ⟨k + 1, by omega, by go_num, by rw [unhide HFIN], by rw [unhide HFIN]; omega, by rw [unhide HFIN]; omega, hbr.trans ((unhide HBI).mono hbr.size), Nat.lt_of_lt_of_le hgr (unhide HBI).size, cell_grown (unhide HBI) (unhide HC).1, cell_grown (unhide HBI) (unhide HC).2⟩
          case measure => simp [intOf]; omega
    · obtain rfl : k = 2 := by omega
      go_wp2_with fail
      go_ret
      exact ⟨rfl, hbr⟩

/-- ZZLastShared. -/
theorem zls_any (a a' : Option Addr) (cap cap' : Nat) (xs ys : Hs) (high : Int) (w : World) (hl : xs.length ≤ 9223372036854775807) (hl' : ys.length ≤ 9223372036854775807)
    (ha : Hist w a xs) (hb : Hist w a' ys) (hx : HOk xs) (hy : HOk ys) (h0 : 0 ≤ high) (h1 : high ≤ 18446744073709551615) :
    Calls Try.prog 11 #[.slice a xs.length cap, .slice a' ys.length cap', .int .u64 high] w fun e w' => e = .returned (.int .u64 (foldS xs ys high (xs ++ ys))) ∧ Below w.heap.size w w' := by
  have hc := ls_core a a' cap cap' xs ys high w hl hl' ha hb hx hy h0 h1
  clear hl hl' ha hb hx hy h0 h1
  go_enter Try.func11, Try.ntmps11
  go_wp2_with fail
  refine hc.mono ?_
  rintro e w1 ⟨rfl, hb1⟩
  go_wp2_with fail
  go_ret
  exact ⟨rfl, hb1⟩
end Go.Proofs.Qxb6605272a
