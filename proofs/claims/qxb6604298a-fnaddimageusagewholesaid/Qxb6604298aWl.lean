import Derived.Test.Qxb6604298aWg
/-! The guards on total length of one metadata: zzBytes_.. (7, 14). -/
namespace Go.Proofs.Qxb6604298a
open Go.RowKit
set_option maxHeartbeats 1000000

set_option maxRecDepth 100000 in
theorem zb7_some (b off : Nat) (m : Mt) (w : World) (hm : MtAt w b off m) :
    Calls Try.prog 7 #[.pointer (some ⟨b, off, none⟩)] w fun e w' => BoolIf e (m.pd.length ≤ 1048576 ∧ m.cd.length ≤ 1048576) ∧ w' = w := by
  have c4 := hm.pv
  have c5 := hm.cv
  have HPD := hide hm.pd
  have HCD := hide hm.cd
  clear hm
  generalize m.pa = pa at *
  generalize m.ca = ca at *
  generalize m.pc = pc at *
  generalize m.cc = cc at *
  generalize m.pd = pd at *
  generalize m.cd = cd at *
  by_cases hp : 1048576 < pd.length
  · go_enter Try.func7, Try.ntmps7
    go_wp2
    go_ret
    exact ⟨BoolIf.no _ rfl, rfl⟩
  · go_enter Try.func7, Try.ntmps7
    go_wp2
    go_loop [3, 4] (fun n i => ∃ (j : Nat) (r : Int), j ≤ pd.length ∧ i = .int .i64 j ∧ n = .int .i64 r ∧ 0 ≤ r ∧ r ≤ 1048576) (fun _ i => pd.length - (intOf i).toNat)
    case atStart => exact ⟨0, _, Nat.zero_le _, rfl, rfl, by omega, by omega⟩
    case round =>
      obtain ⟨j, r, hj, rfl, rfl, hr1, hr2⟩ := hrel
      by_cases hjt : j < pd.length
      · rcases unhide HPD with h0 | ⟨b', o', hpa, hc⟩
        · rw [h0] at hjt; simp at hjt
        have hc0 := (hc j hjt).1
        clear hc
        subst hpa
        go_wp2
        · go_ret
          exact ⟨BoolIf.no _ rfl, rfl⟩
        · go_ret
          exact ⟨BoolIf.no _ rfl, rfl⟩
        · go_round
          case rel => exact ⟨j + 1, _, by omega, by go_num, rfl, by omega, by omega⟩
          case measure => simp [intOf]; omega
      · have hjt' : pd.length ≤ j := by omega
        by_cases hc : 1048576 < cd.length
        · go_wp2
          go_ret
          exact ⟨BoolIf.no _ rfl, rfl⟩
        by_cases hc2 : 1048576 < r + cd.length
        · go_wp2
          go_ret
          exact ⟨BoolIf.no _ rfl, rfl⟩
        go_wp2
        go_loop [3, 5] (fun n i => ∃ (j : Nat) (r' : Int), j ≤ cd.length ∧ i = .int .i64 j ∧ n = .int .i64 r' ∧ 0 ≤ r' ∧ r' ≤ 1048576) (fun _ i => cd.length - (intOf i).toNat)
        case atStart => exact ⟨0, _, Nat.zero_le _, rfl, rfl, by omega, by omega⟩
        case round =>
          obtain ⟨i, r', hi, rfl, rfl, hs1, hs2⟩ := hrel
          by_cases hit : i < cd.length
          · rcases unhide HCD with h0 | ⟨b', o', hpa, hc⟩
            · rw [h0] at hit; simp at hit
            have hc0 := (hc i hit).1
            clear hc
            subst hpa
            go_wp2
            · go_ret
              exact ⟨BoolIf.no _ rfl, rfl⟩
            · go_ret
              exact ⟨BoolIf.no _ rfl, rfl⟩
            · go_round
              case rel => exact ⟨i + 1, _, by omega, by go_num, rfl, by omega, by omega⟩
              case measure => simp [intOf]; omega
          · go_wp2
            go_ret
            exact ⟨BoolIf.yes rfl (by omega), rfl⟩

theorem zb7_nil (w : World) :
    Calls Try.prog 7 #[.pointer none] w fun e w' => e = .returned (.bool true) ∧ w' = w := by
  go_enter Try.func7, Try.ntmps7
  go_wp2
  go_ret
  exact ⟨rfl, rfl⟩

set_option maxRecDepth 100000 in
theorem zb14_some (v : Value) (b off : Nat) (m : Mt) (w : World) (hm : MtAt w b off m) :
    Calls Try.prog 14 #[v, .pointer (some ⟨b, off, none⟩)] w fun e w' => BoolIf e (m.pd.length ≤ 1048576 ∧ m.cd.length ≤ 1048576) ∧ w' = w := by
  have c4 := hm.pv
  have c5 := hm.cv
  have HPD := hide hm.pd
  have HCD := hide hm.cd
  clear hm
  generalize m.pa = pa at *
  generalize m.ca = ca at *
  generalize m.pc = pc at *
  generalize m.cc = cc at *
  generalize m.pd = pd at *
  generalize m.cd = cd at *
  by_cases hp : 1048576 < pd.length
  · go_enter Try.func14, Try.ntmps14
    go_wp2
    go_ret
    exact ⟨BoolIf.no _ rfl, rfl⟩
  · go_enter Try.func14, Try.ntmps14
    go_wp2
    go_loop [5, 6] (fun n i => ∃ (j : Nat) (r : Int), j ≤ pd.length ∧ i = .int .i64 j ∧ n = .int .i64 r ∧ 0 ≤ r ∧ r ≤ 1048576) (fun _ i => pd.length - (intOf i).toNat)
    case atStart => exact ⟨0, _, Nat.zero_le _, rfl, rfl, by omega, by omega⟩
    case round =>
      obtain ⟨j, r, hj, rfl, rfl, hr1, hr2⟩ := hrel
      by_cases hjt : j < pd.length
      · rcases unhide HPD with h0 | ⟨b', o', hpa, hc⟩
        · rw [h0] at hjt; simp at hjt
        have hc0 := (hc j hjt).1
        clear hc
        subst hpa
        go_wp2
        · go_ret
          exact ⟨BoolIf.no _ rfl, rfl⟩
        · go_ret
          exact ⟨BoolIf.no _ rfl, rfl⟩
        · go_round
          case rel => exact ⟨j + 1, _, by omega, by go_num, rfl, by omega, by omega⟩
          case measure => simp [intOf]; omega
      · have hjt' : pd.length ≤ j := by omega
        by_cases hc : 1048576 < cd.length
        · go_wp2
          go_ret
          exact ⟨BoolIf.no _ rfl, rfl⟩
        by_cases hc2 : 1048576 < r + cd.length
        · go_wp2
          go_ret
          exact ⟨BoolIf.no _ rfl, rfl⟩
        go_wp2
        go_loop [5, 7] (fun n i => ∃ (j : Nat) (r' : Int), j ≤ cd.length ∧ i = .int .i64 j ∧ n = .int .i64 r' ∧ 0 ≤ r' ∧ r' ≤ 1048576) (fun _ i => cd.length - (intOf i).toNat)
        case atStart => exact ⟨0, _, Nat.zero_le _, rfl, rfl, by omega, by omega⟩
        case round =>
          obtain ⟨i, r', hi, rfl, rfl, hs1, hs2⟩ := hrel
          by_cases hit : i < cd.length
          · rcases unhide HCD with h0 | ⟨b', o', hpa, hc⟩
            · rw [h0] at hit; simp at hit
            have hc0 := (hc i hit).1
            clear hc
            subst hpa
            go_wp2
            · go_ret
              exact ⟨BoolIf.no _ rfl, rfl⟩
            · go_ret
              exact ⟨BoolIf.no _ rfl, rfl⟩
            · go_round
              case rel => exact ⟨i + 1, _, by omega, by go_num, rfl, by omega, by omega⟩
              case measure => simp [intOf]; omega
          · go_wp2
            go_ret
            exact ⟨BoolIf.yes rfl (by omega), rfl⟩

theorem zb14_nil (v : Value) (w : World) :
    Calls Try.prog 14 #[v, .pointer none] w fun e w' => e = .returned (.bool true) ∧ w' = w := by
  go_enter Try.func14, Try.ntmps14
  go_wp2
  go_ret
  exact ⟨rfl, rfl⟩
end Go.Proofs.Qxb6604298a
