import Derived.Test.Qxb6604298aWa
import Derived.Test.Qxb6604298aWi
import Derived.Test.Qxb6604298aWl
import Derived.Test.Qxb6604298aWn
import Derived.Test.Qxb6604298aWo
/-! The law FnAddImageUsageWhole (4), where the metadata is nil; and what the other ways want. -/
namespace Go.Proofs.Qxb6604298a
open Go.RowKit
set_option maxHeartbeats 4000000
set_option maxRecDepth 100000

theorem Try.size53 : (Try.prog.info? 53).map (fun i => i.size) = some 2 := by kernel_rfl

theorem neq_ptr_same {P : Program} {w : World} {tp te : TypeId} {j : TypeInfo} (a : Addr) (hp : P.underlying tp = some (.pointer te)) (hte : P.info? te = some j) :
    (binOp .neq tp (.pointer (some a)) (.pointer (some a))).run P w = .ok (.bool false) w := by
  have h : ∀ d : Nat, (Op.equalIn (d + 1) tp (.pointer (some a)) (.pointer (some a))).run P w = .ok true w := fun d => by
    simp [Op.equalIn, run_underlying hp, sizeOf, typeInfo, hte, run_sameAddr_same]
  simp only [binOp]
  simp [Op.equal, Op.maxDepth, h 9999]

theorem Det.keep {X : List Nat} {w w' : World} {a : Option Addr} {xs : Ds} (hf : Fr X w w') (hx : ∀ x, a = some x → x.block ∉ X ∧ x.block < w.heap.size) (h : Det w a xs) : Det w' a xs := by
  rcases h with h | ⟨b, off, ha, hc⟩
  · exact Or.inl h
  · obtain ⟨h1, h2⟩ := hx _ ha
    exact Or.inr ⟨b, off, ha, fun i hi => by rw [hf.cell h2 h1, hf.cell h2 h1]; exact hc i hi⟩

theorem MtAt.keep {X : List Nat} {w w' : World} {b off : Nat} {m : Mt} (hf : Fr X w w') (hb : b ∉ X) (hlt : b < w.heap.size) (hp : ∀ x, m.pa = some x → x.block ∉ X ∧ x.block < w.heap.size) (hc : ∀ x, m.ca = some x → x.block ∉ X ∧ x.block < w.heap.size)
    (h : MtAt w b off m) : MtAt w' b off m :=
  ⟨by rw [hf.cell hlt hb]; exact h.p, by rw [hf.cell hlt hb]; exact h.c, by rw [hf.cell hlt hb]; exact h.t, by rw [hf.cell hlt hb]; exact h.s, by rw [hf.cell hlt hb]; exact h.pv, by rw [hf.cell hlt hb]; exact h.cv, h.pd.keep hf hp, h.cd.keep hf hc⟩

theorem below_dW (w : World) (n : Nat) : Below w.heap.size w (w.drewN n) := ⟨rfl, rfl, rfl, Nat.le_refl _, fun _ _ => rfl⟩

/-- Both nil. -/
theorem whole_nn (w : World) : Calls Try.prog 4 #[.pointer none, .pointer none] w fun e w' => e = .returned (.bool true) ∧ Below w.heap.size w w' := by
  have h14 := zb14_nil (.pointer none) w
  have h8 := mbytes_nil w
  have h15 := to_nil w
  have h9 := tg_nil w
  have h11 := zai_nil none w
  have h16 := si_nil w
  have H17 := hide (fun n => sm_nil (w.drewN n))
  go_enter Try.func4, Try.ntmps4
  go_wp2_with fail
  refine h14.mono ?_
  rintro e w1 ⟨rfl, rfl⟩
  go_wp2_with fail
  refine h8.mono ?_
  rintro e w2 ⟨⟨n, rfl⟩, rfl⟩
  go_wp2_with fail
  · go_ret
    exact ⟨rfl, Below.refl _ _⟩
  refine h15.mono ?_
  rintro e w3 ⟨rfl, rfl⟩
  go_wp2_with fail
  refine h9.mono ?_
  rintro e w4 ⟨rfl, rfl⟩
  go_wp2_with fail
  refine h11.mono ?_
  rintro e w5 ⟨rfl, rfl⟩
  clear h14 h8 h15 h9 h11
  go_wp2_with fail
  refine h16.mono ?_
  rintro e w6 ⟨rfl, k, hk⟩
  subst hk
  go_wp2_with fail
  refine (unhide H17 k).mono ?_
  rintro e w7 ⟨rfl, k2, hk⟩
  subst hk
  go_wp2_with fail
  go_ret
  exact ⟨rfl, below_dW _ _⟩

/-- A usage without output details, nil metadata. -/
theorem whole_bn (b off : Nat) (u : Im) (w : World) (hu : UAt w b off u) (h5 : w.cell? ⟨b, off + 5, none⟩ = some (.pointer none)) :
    Calls Try.prog 4 #[.pointer (some ⟨b, off, none⟩), .pointer none] w fun e w' => e = .returned (.bool true) ∧ Below w.heap.size w w' := by
  have h14 := zb14_nil (.pointer (some ⟨b, off, none⟩)) w
  have h8 := mbytes_nil w
  have h15 := to_bare b off u w hu h5
  have HU := hide hu
  have H5 := hide h5
  obtain ⟨i55, hi55, _⟩ := size_parts Try.size55
  have hpe := fun (W : World) (x : Addr) => eql_ptr_same (P := Try.prog) (w := W) (tp := 29) x Try.underlying29 hi55
  clear hu h5 hi55
  go_enter Try.func4, Try.ntmps4
  go_wp2_with fail
  refine h14.mono ?_
  rintro e w1 ⟨rfl, hw1⟩
  subst hw1
  go_wp2_with fail
  refine h8.mono ?_
  rintro e w2 ⟨⟨n, rfl⟩, hw2⟩
  subst hw2
  clear h14 h8
  go_wp2_with fail
  · go_ret
    exact ⟨rfl, Below.refl _ _⟩
  refine h15.mono ?_
  rintro e w3 ⟨rfl, hb3, hu3, h53⟩
  have h9 := tg_nil w3
  have h11 := zai_nil (some ⟨w2.heap.size, 0, none⟩) w3
  have h16 := si_bare w2.heap.size b off u w3 ((unhide HU).grown hb3) (cell_grown hb3 (unhide H5)) hu3 h53
  have H17 := hide (fun n => sm_nil (w3.drewN n))
  have HB3 := hide hb3
  clear h15 hb3 hu3
  go_wp2_with fail
  refine h9.mono ?_
  rintro e w4 ⟨rfl, hw4⟩
  subst hw4
  clear h9
  go_wp2_with fail
  refine h11.mono ?_
  rintro e w5 ⟨rfl, hw5⟩
  subst hw5
  clear h11
  go_wp2_with fail
  refine h16.mono ?_
  rintro e w6 ⟨rfl, k, hk⟩
  subst hk
  clear h16
  go_wp2_with fail
  refine (unhide H17 k).mono ?_
  rintro e w7 ⟨rfl, k2, hk⟩
  subst hk
  go_wp2_with fail
  go_ret
  exact ⟨rfl, (unhide HB3).trans ((below_dW _ _).mono (unhide HB3).size)⟩

/-- A usage with output details, nil metadata. -/
theorem whole_fn (b off d o : Nat) (u : Im) (w : World) (hu : UAt w b off u) (h5 : w.cell? ⟨b, off + 5, none⟩ = some (.pointer (some ⟨d, o, none⟩)))
    (h6 : w.cell? ⟨d, o, none⟩ = some (.int .i64 u.ot)) (h7 : w.cell? ⟨d, o + 1, none⟩ = some (.int .i64 u.oi)) :
    Calls Try.prog 4 #[.pointer (some ⟨b, off, none⟩), .pointer none] w fun e w' => e = .returned (.bool true) ∧ Below w.heap.size w w' := by
  have h14 := zb14_nil (.pointer (some ⟨b, off, none⟩)) w
  have h8 := mbytes_nil w
  have h15 := to_full b off d o u w hu h5 h6 h7
  have HU := hide (And.intro hu (And.intro h5 (And.intro h6 h7)))
  obtain ⟨i55, hi55, _⟩ := size_parts Try.size55
  have hpe := fun (W : World) (x : Addr) => eql_ptr_same (P := Try.prog) (w := W) (tp := 29) x Try.underlying29 hi55
  clear hu h5 h6 h7 hi55
  go_enter Try.func4, Try.ntmps4
  go_wp2_with fail
  refine h14.mono ?_
  rintro e w1 ⟨rfl, hw1⟩
  subst hw1
  go_wp2_with fail
  refine h8.mono ?_
  rintro e w2 ⟨⟨n, rfl⟩, hw2⟩
  subst hw2
  clear h14 h8
  go_wp2_with fail
  · go_ret
    exact ⟨rfl, Below.refl _ _⟩
  refine h15.mono ?_
  rintro e w3 ⟨b', d', rfl, _, _, hb3, hi3⟩
  have h9 := tg_nil w3
  have h11 := zai_nil (some ⟨b', 0, none⟩) w3
  obtain ⟨x1, x2, x3, x4⟩ := unhide HU
  have h16 := si_full b' d' b off d o u w3 (x1.grown hb3) (cell_grown hb3 x2) (cell_grown hb3 x3) (cell_grown hb3 x4) hi3
  have H17 := hide (fun n => sm_nil (w3.drewN n))
  have HB3 := hide hb3
  have e5 := hi3.od
  clear h15 hb3 hi3 x1 x2 x3 x4
  go_wp2_with fail
  refine h9.mono ?_
  rintro e w4 ⟨rfl, hw4⟩
  subst hw4
  clear h9
  go_wp2_with fail
  refine h11.mono ?_
  rintro e w5 ⟨rfl, hw5⟩
  subst hw5
  clear h11
  go_wp2_with fail
  refine h16.mono ?_
  rintro e w6 ⟨rfl, k, hk⟩
  subst hk
  clear h16
  go_wp2_with fail
  refine (unhide H17 k).mono ?_
  rintro e w7 ⟨rfl, k2, hk⟩
  subst hk
  go_wp2_with fail
  go_ret
  exact ⟨rfl, (unhide HB3).trans ((below_dW _ _).mono (unhide HB3).size)⟩

/-- A usage without output details and a metadata that is not nil: outside the law's domain. -/
theorem whole_bm (b off mb mo : Nat) (m : Mt) (w : World) (h5 : w.cell? ⟨b, off + 5, none⟩ = some (.pointer none)) (hm : MtAt w mb mo m) (hf : MtFit m) :
    Calls Try.prog 4 #[.pointer (some ⟨b, off, none⟩), .pointer (some ⟨mb, mo, none⟩)] w fun e w' => e = .returned (.bool true) ∧ Below w.heap.size w w' := by
  have h14 := zb14_some (.pointer (some ⟨b, off, none⟩)) mb mo m w hm
  have HM := hide hm
  clear hm
  go_enter Try.func4, Try.ntmps4
  go_wp2_with fail
  refine h14.mono ?_
  rintro e w1 ⟨⟨r, rfl, hr⟩, hw1⟩
  subst hw1
  clear h14
  cases r
  · go_wp2_with fail
    go_ret
    exact ⟨rfl, Below.refl _ _⟩
  have hlen := hr rfl
  have h8 := mbytes_any mb mo m w1 ⟨hf.p, hf.c, hf.t, hf.s, by omega, by omega⟩ (unhide HM)
  clear hr hlen
  go_wp2_with fail
  refine h8.mono ?_
  rintro e w2 ⟨⟨n, rfl⟩, hw2⟩
  subst hw2
  clear h8
  go_wp2_with fail
  · go_ret
    exact ⟨rfl, Below.refl _ _⟩
  · go_ret
    exact ⟨rfl, Below.refl _ _⟩

end Go.Proofs.Qxb6604298a
