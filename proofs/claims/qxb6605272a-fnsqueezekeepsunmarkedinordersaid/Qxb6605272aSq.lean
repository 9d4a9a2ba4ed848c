import Derived.Test.Qxb6605272aSp
/-! (*SettledWrites).squeeze (34). -/
namespace Go.Proofs.Qxb6605272a
open Go.RowKit
set_option maxHeartbeats 4000000
set_option maxRecDepth 100000
set_option linter.unusedSimpArgs false

theorem zero61 (w : World) : (zeroValue 61).run Try.prog w = .ok (.slice none 0 0) w := by kernel_rfl

/-- What squeeze leaves. -/
structure SqPost (w w' : World) (sb OB oc : Nat) (cb cp : Nat → Nat) (n : Nat) (f : Nat → It) (pr : Int) (rp : Bool) : Prop where
  hd : Hd w' sb OB oc cb cp (keepL f n).length 0 pr rp
  cs : Cs w' cb n (endL f n)
  nil : ∀ j, kk (keepL f n).length ≤ j → j < kk n → w'.cell? ⟨OB, j, none⟩ = some (.slice none 0 0)
  fp : Fp (fun k => k = sb ∨ k = OB ∨ ∃ j, j < kk n ∧ k = cb j) w w'

/-- One item stored: all that the loops carry. -/
theorem put5 {w W1 : World} {sb OB oc n q : Nat} {cb cp : Nat → Nat} {g : Nat → It} {dr pr : Int} {rp : Bool} (t : It) (hq : q < n) (dj : Dj sb OB cb (kk n)) (hc : Cs W1 cb n g) (hh : Hd W1 sb OB oc cb cp n dr pr rp) (hf : Fp (fun b => ∃ j, j < kk n ∧ b = cb j) w W1) :
    Cs (set5 W1 (cb (q / 1024)) (q % 1024 * 5) t) cb n (fun p => if p = q then t else g p) ∧ Hd (set5 W1 (cb (q / 1024)) (q % 1024 * 5) t) sb OB oc cb cp n dr pr rp ∧ Fp (fun b => ∃ j, j < kk n ∧ b = cb j) w (set5 W1 (cb (q / 1024)) (q % 1024 * 5) t) := by
  have hx : Fp (fun b => ∃ j, j < kk n ∧ b = cb j) W1 (set5 W1 (cb (q / 1024)) (q % 1024 * 5) t) := set5_fp ⟨q / 1024, kk_lt hq, rfl⟩
  exact ⟨hc.set dj.inj q hq t, hh.keep hx (fun ⟨j, hj, e⟩ => dj.cs j hj e.symm) (fun ⟨j, hj, e⟩ => dj.co j hj e.symm), hf.trans hx⟩

theorem Cs.drew {w : World} {cb : Nat → Nat} {n : Nat} {f : Nat → It} (h : Cs w cb n f) : Cs w.drew cb n f := h.keep (X := fun _ => False) (Fp.refl _ _).drew (fun _ _ h => h)
theorem Hd.drew {w : World} {sb OB oc : Nat} {cb cp : Nat → Nat} {n : Nat} {dr pr : Int} {rp : Bool} (h : Hd w sb OB oc cb cp n dr pr rp) : Hd w.drew sb OB oc cb cp n dr pr rp := h.keep (X := fun _ => False) (Fp.refl _ _).drew (fun h => h) (fun h => h)

/-- Behind clear: from C to P the outer cells are nil; all else is as it was. -/
structure Cleared (w w' : World) (OB C P : Nat) : Prop where
  nil : ∀ j, C ≤ j → j < P → w'.cell? ⟨OB, j, none⟩ = some (.slice none 0 0)
  low : ∀ j, j < C → w'.cell? ⟨OB, j, none⟩ = w.cell? ⟨OB, j, none⟩
  fro : ∀ j, w'.frozen? ⟨OB, j, none⟩ = w.frozen? ⟨OB, j, none⟩
  fp : Fp (fun k => k = OB) w w'

theorem cleared_set (w : World) (OB C P : Nat) (hle : C ≤ P) (hc : ∀ j, j < P → (w.cell? ⟨OB, j, none⟩).isSome = true) : Cleared w (w.setCells OB C (List.replicate (P - C) (.slice none 0 0))) OB C P := by
  refine ⟨fun j h1 h2 => ?_, fun j h => ?_, fun j => World.frozen?_setCells _ _ _ _ _, Fp.setCells (X := fun k => k = OB) rfl _ _ (Fp.refl _ _)⟩
  · have := World.cell?_setCells_in OB (List.replicate (P - C) (.slice none 0 0)) C w (fun i hi => hc _ (by simp at hi; omega)) (j - C) (by simp; omega)
    rw [show C + (j - C) = j by omega] at this
    rw [this]
    simp
  · exact World.cell?_setCells_out OB _ C w ⟨OB, j, none⟩ (fun _ _ => Or.inl h)
theorem cleared_same (w : World) (OB C P : Nat) (h : P ≤ C) : Cleared w w OB C P := ⟨fun j h1 h2 => by omega, fun _ _ => rfl, fun _ => rfl, Fp.refl _ _⟩

theorem clen_le {q p j : Nat} (h : q ≤ p) : clen q j ≤ clen p j := by unfold clen; omega
theorem clen_full {q p j : Nat} (h : q ≤ p) (hj : j + 1 < kk q) : clen q j = clen p j := by unfold kk at hj; unfold clen; omega
theorem last_lt {q : Nat} (h : 0 < kk q) : (kk q - 1) * 1024 < q := by unfold kk at *; omega

theorem clen_kk (q : Nat) : 0 < kk q → clen q (kk q - 1) = q - (kk q - 1) * 1024 := by unfold kk clen; omega

theorem sq_fin {w w2 wc W' : World} {sb OB oc p : Nat} {cb cp : Nat → Nat} {f : Nat → It} {pr : Int} {rp : Bool} (dj : Dj sb OB cb (kk p)) (hcs : Cs w2 cb p (endL f p)) (hfp : Fp (fun b => ∃ j, j < kk p ∧ b = cb j) w w2)
    (hcl : Cleared w2 wc OB (kk (keepL f p).length) (kk p)) (lo : OB < w2.heap.size)
    (b0 : W'.cell? ⟨sb, 0, none⟩ = some (.slice (some ⟨OB, 0, none⟩) (kk (keepL f p).length) oc)) (b1 : W'.cell? ⟨sb, 1, none⟩ = some (.int .i64 ((keepL f p).length : Int))) (b2 : W'.cell? ⟨sb, 2, none⟩ = some (.int .i64 0))
    (b3 : W'.cell? ⟨sb, 3, none⟩ = some (.int .u64 pr)) (b4 : W'.cell? ⟨sb, 4, none⟩ = some (.bool rp)) (ou : ∀ j, j < kk (keepL f p).length → W'.cell? ⟨OB, j, none⟩ = some (.slice (some ⟨cb j, 0, none⟩) (clen (keepL f p).length j) (cp j)))
    (hi : ∀ j, kk (keepL f p).length ≤ j → W'.cell? ⟨OB, j, none⟩ = wc.cell? ⟨OB, j, none⟩) (fs : ∀ j, W'.frozen? ⟨sb, j, none⟩ = false) (fo : ∀ j, W'.frozen? ⟨OB, j, none⟩ = false) (fw : Fp (fun k => k = sb ∨ k = OB) wc W') :
    SqPost w W' sb OB oc cb cp p f pr rp := by
  have hcw : Fp (fun k => k = sb ∨ k = OB) w2 W' := (hcl.fp.mono (fun k hk => Or.inr hk)).trans fw
  refine ⟨⟨b0, b1, b2, b3, b4, ou, fs, fo, Nat.lt_of_lt_of_le lo hcw.size⟩, hcs.keep hcw (fun j hj h => by rcases h with h | h; exact dj.cs j hj h; exact dj.co j hj h), fun j h1 h2 => by rw [hi j h1]; exact hcl.nil j h1 h2, ?_⟩
  exact (hfp.mono (fun k hk => Or.inr (Or.inr hk))).trans (hcw.mono (fun k hk => by rcases hk with h | h; exact Or.inl h; exact Or.inr (Or.inl h)))

theorem sq_end0 {w w2 wc : World} {sb OB oc p : Nat} {cb cp : Nat → Nat} {f : Nat → It} {dr pr n0 : Int} {rp : Bool} {v0 : Value} (dj : Dj sb OB cb (kk p)) (hcs : Cs w2 cb p (endL f p)) (hfp : Fp (fun b => ∃ j, j < kk p ∧ b = cb j) w w2)
    (hq : kk (keepL f p).length = 0) (hcl : Cleared w2 wc OB (kk (keepL f p).length) (kk p)) (lo : OB < w2.heap.size)
    (s0 : wc.cell? ⟨sb, 0, none⟩ = some v0) (s1 : wc.cell? ⟨sb, 1, none⟩ = some (.int .i64 n0)) (s2 : wc.cell? ⟨sb, 2, none⟩ = some (.int .i64 dr)) (s3 : wc.cell? ⟨sb, 3, none⟩ = some (.int .u64 pr)) (s4 : wc.cell? ⟨sb, 4, none⟩ = some (.bool rp))
    (fs : ∀ j, wc.frozen? ⟨sb, j, none⟩ = false) (fo : ∀ j, wc.frozen? ⟨OB, j, none⟩ = false) :
    SqPost w (((wc.setCell ⟨sb, 0, none⟩ (.slice (some ⟨OB, 0, none⟩) 0 oc)).setCell ⟨sb, 1, none⟩ (.int .i64 ((keepL f p).length : Int))).setCell ⟨sb, 2, none⟩ (.int .i64 0)) sb OB oc cb cp p f pr rp := by
  have hso := dj.so
  refine sq_fin dj hcs hfp hcl lo ?_ ?_ ?_ ?_ ?_ ?_ ?_ ?_ ?_ ?_
  · rw [hq]; simp [World.cell?_setCell_other, World.cell?_setCell_same', s0, s1, s2]
  · simp [World.cell?_setCell_other, World.cell?_setCell_same', s0, s1, s2]
  · simp [World.cell?_setCell_other, World.cell?_setCell_same', s0, s1, s2]
  · simp [World.cell?_setCell_other, s3]
  · simp [World.cell?_setCell_other, s4]
  · intro j hj; rw [hq] at hj; omega
  · intro j _; simp [World.cell?_setCell_other, hso]
  · intro j; simpa using fs j
  · intro j; simpa using fo j
  · exact (((Fp.refl _ wc).setCell (Or.inl rfl) _).setCell (Or.inl rfl) _).setCell (Or.inl rfl) _

theorem sq_end1 {w w2 wc : World} {sb OB oc p c : Nat} {cb cp : Nat → Nat} {f : Nat → It} {dr pr n0 : Int} {rp : Bool} {v0 : Value} (dj : Dj sb OB cb (kk p)) (hcs : Cs w2 cb p (endL f p)) (hfp : Fp (fun b => ∃ j, j < kk p ∧ b = cb j) w w2)
    (hqp : (keepL f p).length ≤ p) (hq : kk (keepL f p).length = c + 1) (hcl : Cleared w2 wc OB (kk (keepL f p).length) (kk p)) (lo : OB < w2.heap.size)
    (s0 : wc.cell? ⟨sb, 0, none⟩ = some v0) (s1 : wc.cell? ⟨sb, 1, none⟩ = some (.int .i64 n0)) (s2 : wc.cell? ⟨sb, 2, none⟩ = some (.int .i64 dr)) (s3 : wc.cell? ⟨sb, 3, none⟩ = some (.int .u64 pr)) (s4 : wc.cell? ⟨sb, 4, none⟩ = some (.bool rp))
    (fs : ∀ j, wc.frozen? ⟨sb, j, none⟩ = false) (fo : ∀ j, wc.frozen? ⟨OB, j, none⟩ = false) (ou : ∀ j, j < c + 1 → wc.cell? ⟨OB, j, none⟩ = some (.slice (some ⟨cb j, 0, none⟩) (clen p j) (cp j))) :
    SqPost w ((((wc.setCell ⟨sb, 0, none⟩ (.slice (some ⟨OB, 0, none⟩) (c + 1) oc)).setCell ⟨OB, c, none⟩ (.slice (some ⟨cb c, 0, none⟩) (clen (keepL f p).length c) (cp c))).setCell ⟨sb, 1, none⟩ (.int .i64 ((keepL f p).length : Int))).setCell ⟨sb, 2, none⟩ (.int .i64 0)).drew sb OB oc cb cp p f pr rp := by
  have hso := dj.so
  have hso' : OB ≠ sb := fun e => hso e.symm
  have o1 := ou c (by omega)
  refine sq_fin dj hcs hfp hcl lo ?_ ?_ ?_ ?_ ?_ ?_ ?_ ?_ ?_ ?_
  · rw [hq, World.cell?_drew]; simp [World.cell?_setCell_other, World.cell?_setCell_same', hso, hso', s0, s1, s2]
  · rw [World.cell?_drew]; simp [World.cell?_setCell_other, World.cell?_setCell_same', hso, hso', s0, s1, s2]
  · rw [World.cell?_drew]; simp [World.cell?_setCell_other, World.cell?_setCell_same', hso, hso', s0, s1, s2]
  · rw [World.cell?_drew]; simp [World.cell?_setCell_other, hso, hso', s3]
  · rw [World.cell?_drew]; simp [World.cell?_setCell_other, hso, hso', s4]
  · intro j hj
    rw [World.cell?_drew, World.cell?_setCell_other _ _ _ _ (by simp [hso]), World.cell?_setCell_other _ _ _ _ (by simp [hso])]
    by_cases e : j = c
    · subst e
      rw [World.cell?_setCell_same' _ _ _ (by rw [World.cell?_setCell_other _ _ _ _ (by simp [hso]), o1]; rfl)]
    · rw [World.cell?_setCell_other _ _ _ _ (fun h => by have := congrArg Addr.off h; simp at this; omega), World.cell?_setCell_other _ _ _ _ (by simp [hso]), ou j (by omega), clen_full hqp (by omega)]
  · intro j hj
    rw [World.cell?_drew, World.cell?_setCell_other _ _ _ _ (by simp [hso]), World.cell?_setCell_other _ _ _ _ (by simp [hso]), World.cell?_setCell_other _ _ _ _ (fun h => by have := congrArg Addr.off h; simp at this; omega), World.cell?_setCell_other _ _ _ _ (by simp [hso])]
  · intro j; simpa using fs j
  · intro j; simpa using fo j
  · exact (((((Fp.refl _ wc).setCell (Or.inl rfl) _).setCell (Or.inr rfl) _).setCell (Or.inl rfl) _).setCell (Or.inl rfl) _).drew

theorem sq_any (sb OB oc n : Nat) (cb cp : Nat → Nat) (f : Nat → It) (dr pr : Int) (rp : Bool) (w : World) (hn : n ≤ 65536) (hd : Hd w sb OB oc cb cp n dr pr rp) (hc : Cs w cb n f) (dj : Dj sb OB cb (kk n)) (hoc : kk n ≤ oc) (hcp : ∀ j, j < kk n → clen n j ≤ cp j) :
    Calls Try.prog 34 #[.pointer (some ⟨sb, 0, none⟩)] w fun e w' => e = .returned (.tuple #[]) ∧ SqPost w w' sb OB oc cb cp n f pr rp := by
  have HHD := hide hd
  have HCS := hide hc
  have HDJ := hide dj
  have nn := hd.nn
  clear hd hc dj
  go_enter Try.func34, Try.ntmps34
  go_wp2_with fail
  go_loopw [2, 11] (fun kp i wr => ∃ (k : Nat), k ≤ n ∧ i = .int .i64 k ∧ kp = .int .i64 ((keepL f k).length : Int) ∧ Cs wr cb n (curL f k) ∧ Hd wr sb OB oc cb cp n dr pr rp ∧ Fp (fun b => ∃ j, j < kk n ∧ b = cb j) w wr) (fun _ i _ => n - (intOf i).toNat)
  case atStart => exact ⟨0, Nat.zero_le _, rfl, rfl, (unhide HCS).congr (fun p _ => (curL_zero f p).symm), unhide HHD, Fp.refl _ _⟩
  case round =>
    obtain ⟨k, hk, rfl, rfl, hcs, hhd, hfp⟩ := hrel
    by_cases hlt : k < n
    · have h36 := at_any sb OB oc k n cb cp wr hlt hn hhd.ch (hhd.ou _ (kk_lt hlt))
      have hit := hcs.it k hlt
      rw [curL_self] at hit
      obtain ⟨c0, c1, c2, c3, c4⟩ := hit
      have HCS' := hide hcs
      have HHD' := hide hhd
      have HFP := hide hfp
      have hle := keepL_le f k
      have HLE := hide hle
      clear hcs hhd hfp nn
      have HT := hide (show ∀ h : ((f k).l != 255) = false, keepL f (k + 1) = keepL f k from keepL_skip f k)
      have HT' := hide (show ∀ h : ((f k).l != 255) = true, keepL f (k + 1) = keepL f k ++ [f k] from keepL_take f k)
      have HU := hide (show ∀ p, ((f k).l != 255) = false → curL f (k + 1) p = curL f k p from fun p h => curL_skip f k p h)
      have HU' := hide (show ∀ p, ((f k).l != 255) = true → (if p = (keepL f k).length then f k else curL f k p) = curL f (k + 1) p from fun p h => curL_take f k p h)
      generalize hq : (keepL f k).length = q at *
      have HQ := hide hq
      clear hq
      generalize f k = t at *
      go_wp2_with fail
      refine h36.mono ?_
      rintro e w1 ⟨rfl, hw1⟩
      subst hw1
      clear h36
      cases hm : (t.l != 255)
      · go_wp2_with fail
        have hal : Fp (fun b => ∃ j, j < kk n ∧ b = cb j) w1 (w1.alloc (.cells #[.int .u64 t.s, .string t.k, .string t.v, .int .u8 t.l, .int .u64 t.r] 66)) := (Fp.refl _ _).alloc _
        have hal0 : Fp (fun _ => False) w1 (w1.alloc (.cells #[.int .u64 t.s, .string t.k, .string t.v, .int .u8 t.l, .int .u64 t.r] 66)) := (Fp.refl _ _).alloc _
        go_roundw
        case rel => exact ⟨k + 1, by omega, by go_num, by rw [unhide HT hm, unhide HQ], ((unhide HCS').keep hal0 (fun _ _ h => h)).congr (fun p _ => (unhide HU p hm).symm), (unhide HHD').keep hal0 (fun h => h) (fun h => h), (unhide HFP).trans hal⟩
        case measure => simp [intOf]; omega
      · go_upto_region 6 with (fail)
        have hal : Fp (fun b => ∃ j, j < kk n ∧ b = cb j) w1 (w1.alloc (.cells #[.int .u64 t.s, .string t.k, .string t.v, .int .u8 t.l, .int .u64 t.r] 66)) := (Fp.refl _ _).alloc _
        have hal0 : Fp (fun _ => False) w1 (w1.alloc (.cells #[.int .u64 t.s, .string t.k, .string t.v, .int .u8 t.l, .int .u64 t.r] 66)) := (Fp.refl _ _).alloc _
        have z0 : (w1.alloc (.cells #[.int .u64 t.s, .string t.k, .string t.v, .int .u8 t.l, .int .u64 t.r] 66)).cell? ⟨w1.heap.size, 0, none⟩ = some (.int .u64 t.s) := by simp
        have z1 : (w1.alloc (.cells #[.int .u64 t.s, .string t.k, .string t.v, .int .u8 t.l, .int .u64 t.r] 66)).cell? ⟨w1.heap.size, 1, none⟩ = some (.string t.k) := by simp
        have z2 : (w1.alloc (.cells #[.int .u64 t.s, .string t.k, .string t.v, .int .u8 t.l, .int .u64 t.r] 66)).cell? ⟨w1.heap.size, 2, none⟩ = some (.string t.v) := by simp
        have z3 : (w1.alloc (.cells #[.int .u64 t.s, .string t.k, .string t.v, .int .u8 t.l, .int .u64 t.r] 66)).cell? ⟨w1.heap.size, 3, none⟩ = some (.int .u8 t.l) := by simp
        have z4 : (w1.alloc (.cells #[.int .u64 t.s, .string t.k, .string t.v, .int .u8 t.l, .int .u64 t.r] 66)).cell? ⟨w1.heap.size, 4, none⟩ = some (.int .u64 t.r) := by simp
        have hcs := (unhide HCS').keep hal0 (fun _ _ h => h)
        have hhd := (unhide HHD').keep hal0 (fun h => h) (fun h => h)
        have hfp := (unhide HFP).trans hal
        generalize w1.alloc (.cells #[.int .u64 t.s, .string t.k, .string t.v, .int .u8 t.l, .int .u64 t.r] 66) = W1 at z0 z1 z2 z3 z4 hcs hhd hfp ⊢
        generalize w1.heap.size = nb at z0 z1 z2 z3 z4 ⊢
        have hqn : q < n := by omega
        have h36 := at_any sb OB oc q n cb cp W1.drew hqn hn hhd.ch (hhd.ou _ (kk_lt hqn))
        have hitq := hcs.it q hqn
        obtain ⟨a0, a1, a2, a3, a4⟩ := hitq
        have af := hcs.fr q hqn
        have HC := hide hcs
        have HH := hide hhd
        have HF := hide hfp
        clear hcs hhd hfp hal hal0 c0 c1 c2 c3 c4
        generalize hB : cb (q / 1024) = B at a0 a1 a2 a3 a4 af h36
        have HB := hide hB
        clear hB
        go_region_with (go_at_call 36; refine h36.mono ?_; rintro e w2 ⟨rfl, rfl⟩)
        all_goals
          go_wp2_with fail
          go_roundw
          case rel =>
            have hB := unhide HB
            obtain ⟨x1, x2, x3⟩ := put5 t hqn (unhide HDJ) (unhide HC) (unhide HH) (unhide HF)
            rw [hB] at x1 x2 x3
            exact ⟨k + 1, by omega, by go_num, by rw [unhide HT' hm, List.length_append, unhide HQ]; rfl, x1.drew.congr (fun p _ => unhide HU' p hm), x2.drew, x3.drew⟩
          case measure => simp [intOf]; omega
    · obtain rfl : k = n := by omega
      have hle := keepL_le f k
      have HCS1 := hide hcs
      have HHD1 := hide hhd
      have HFP1 := hide hfp
      have nn1 := hhd.nn
      clear hcs hhd hfp nn
      generalize hq : (keepL f k).length = q at *
      have HQ := hide hq
      clear hq
      go_wp2_with fail
      go_loopw [5] (fun i wr => ∃ (p : Nat), q ≤ p ∧ p ≤ k ∧ i = .int .i64 p ∧ Cs wr cb k (finL f k p) ∧ Hd wr sb OB oc cb cp k dr pr rp ∧ Fp (fun b => ∃ j, j < kk k ∧ b = cb j) w wr) (fun i _ => k - (intOf i).toNat)
      case atStart => exact ⟨q, Nat.le_refl _, hle, rfl, (unhide HCS1).congr (fun p _ => by have := finL_start f k p; rw [unhide HQ] at this; exact this), unhide HHD1, unhide HFP1⟩
      case round =>
        obtain ⟨p, hp1, hp2, rfl, hcs, hhd, hfp⟩ := hrel
        have nn2 := hhd.nn
        clear nn1
        by_cases hlt2 : p < k
        · have h36 := at_any sb OB oc p k cb cp wr hlt2 hn hhd.ch (hhd.ou _ (kk_lt hlt2))
          have hitq := hcs.it p hlt2
          obtain ⟨a0, a1, a2, a3, a4⟩ := hitq
          have af := hcs.fr p hlt2
          have HC := hide hcs
          have HH := hide hhd
          have HF := hide hfp
          clear hcs hhd hfp
          generalize hB : cb (p / 1024) = B at a0 a1 a2 a3 a4 af h36
          have HB := hide hB
          clear hB
          go_wp2_with fail
          refine h36.mono ?_
          rintro e w1 ⟨rfl, hw1⟩
          subst hw1
          clear h36
          go_wp2_with fail
          go_roundw
          case rel =>
            have hB := unhide HB
            obtain ⟨x1, x2, x3⟩ := put5 It.zero hlt2 (unhide HDJ) (unhide HC) (unhide HH) (unhide HF)
            rw [hB] at x1 x2 x3
            exact ⟨p + 1, by omega, by omega, by go_num, x1.congr (fun p' _ => finL_step f k p p' (by rw [unhide HQ]; exact hp1)), x2, x3⟩
          case measure => simp [intOf]; omega
        · obtain rfl : p = k := by omega
          have hcs2 : Cs wr cb p (endL f p) := hcs.congr (fun x hx => finL_end f p x hx)
          have HCS2 := hide hcs2
          have HHD2 := hide hhd
          have HFP2 := hide hfp
          have ch := hhd.ch
          clear hcs hcs2 hhd hfp
          obtain ⟨w2, rfl⟩ : ∃ wo : World, wo = wr := ⟨_, rfl⟩
          have hkq : kk q ≤ kk p := by unfold kk; omega
          have t1 : ((q : Int) + 1024 - 1) / 1024 = (kk q : Int) := by unfold kk; omega
          have hcq := clen_kk q
          have HOC := hide hoc
          have HCP := hide hcp
          clear hcp
          generalize hC : kk q = C at *
          have HCC := hide hC
          clear hC
          generalize hP : kk p = P at *
          have HPP := hide hP
          clear hP
          go_upto_region 14 with (fail)
          go_cut [6] (fun s6 wc => s6 = .int .i64 (C : Int) ∧ Cleared w2 wc OB C P)
          case first =>
            by_cases hlt3 : C < P
            · have hne : ¬ oc = C := by omega
              have hcl : ∀ ty, (Builtin.clear_ #[53] ty #[.slice (some ⟨OB, C, none⟩) (P - C) (oc - C)]).run Try.prog w2 = .ok (.tuple #[]) (w2.setCells OB C (List.replicate (P - C) (.slice none 0 0))) :=
                fun ty => Lib.run_clear_slice w2 53 61 ty (.slice none 0 0) Try.underlying53 zero61 rfl rfl OB C (P - C) (oc - C) (by omega) (fun j hj => by rw [(unhide HHD2).ou (C + j) (by rw [unhide HPP]; omega)]; rfl) (fun j _ => (unhide HHD2).fo _)
              go_wp2_with (simp only [hcl])
              go_meet
              case rel => exact ⟨by rw [t1], cleared_set w2 OB C P (by omega) (fun j hj => by rw [(unhide HHD2).ou j (by rw [unhide HPP]; omega)]; rfl)⟩
            · obtain rfl : C = P := by omega
              have hsub : C - C = 0 := by omega
              have hcl : ∀ ty a c, (Builtin.clear_ #[53] ty #[.slice a 0 c]).run Try.prog w2 = .ok (.tuple #[]) w2 := fun ty a c => by
                cases a <;> simp [Builtin.clear_, run_underlying Try.underlying53]
              by_cases hoc' : oc = C
              all_goals
                go_wp2_with (simp only [hcl, hsub])
                go_meet
                case rel => exact ⟨by rw [t1], cleared_same _ _ _ _ (Nat.le_refl _)⟩
          case rest =>
            obtain ⟨rfl, hcl⟩ := hcut
            have hso := (unhide HDJ).so
            have hso' : OB ≠ sb := fun e => hso e.symm
            obtain ⟨x0, x1, x2, x3, x4, x5, x6, x7, x8⟩ := unhide HHD2
            have ch2 := hcl.fp.cell' hso x0
            have s1 := hcl.fp.cell' hso x1
            have s2 := hcl.fp.cell' hso x2
            have s3 := hcl.fp.cell' hso x3
            have s4 := hcl.fp.cell' hso x4
            have sf : ∀ j, wc.frozen? ⟨sb, j, none⟩ = false := fun j => by rw [hcl.fp.frozen (lt_of_cell x0) hso]; exact x6 j
            have of : ∀ j, wc.frozen? ⟨OB, j, none⟩ = false := fun j => by rw [hcl.fro]; exact x7 j
            have ou : ∀ j, j < C → wc.cell? ⟨OB, j, none⟩ = some (.slice (some ⟨cb j, 0, none⟩) (clen p j) (cp j)) := fun j hj => by rw [hcl.low j hj]; exact x5 j (by rw [unhide HPP]; omega)
            have HCL := hide hcl
            have HOU := hide ou
            clear x0 x1 x2 x3 x4 x5 x6 x7 x8 hcl
            rcases Nat.eq_zero_or_pos C with hC0 | hCp
            · subst hC0
              clear ou
              go_wp2_with fail
              go_end0
              have hQ := unhide HQ
              subst hQ
              have hP := unhide HPP
              subst hP
              exact ⟨rfl, sq_end0 (unhide HDJ) (unhide HCS2) (unhide HFP2) (unhide HCC) (by rw [unhide HCC]; exact unhide HCL) (unhide HHD2).lo ch2 s1 s2 s3 s4 sf of⟩
            · obtain ⟨c, rfl⟩ : ∃ c, C = c + 1 := ⟨C - 1, by omega⟩
              have o1 := ou c (by omega)
              have hcq' := hcq (by omega)
              have hcp1 := unhide HCP c (by omega)
              have hll := last_lt (q := q) (by rw [unhide HCC]; omega)
              rw [unhide HCC] at hll
              simp only [Nat.add_sub_cancel] at hll hcq'
              have hcle := clen_le (j := c) hp1
              obtain ⟨m, hm⟩ : ∃ m, m = clen q c := ⟨_, rfl⟩
              rw [← hm] at hcq' hcle
              have t2 : (q : Int) - (c : Int) * 1024 = (m : Int) := by omega
              have hmc : m ≤ cp c := by omega
              have hm0 : (m : Int) ≤ (cp c : Int) := by omega
              have HMM := hide hm
              clear ou hcq hcq' hcle hm hll
              go_upto_region 17 with (fail)
              go_region
              go_wp2_with fail
              go_end0
              have hQ := unhide HQ
              subst hQ
              have hP := unhide HPP
              subst hP
              have hM := unhide HMM
              subst hM
              exact ⟨rfl, sq_end1 (unhide HDJ) (unhide HCS2) (unhide HFP2) hp1 (unhide HCC) (by rw [unhide HCC]; exact unhide HCL) (unhide HHD2).lo ch2 s1 s2 s3 s4 sf of (unhide HOU)⟩
end Go.Proofs.Qxb6605272a
