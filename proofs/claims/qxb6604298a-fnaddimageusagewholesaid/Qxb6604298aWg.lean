import Derived.Test.Qxb6604298aWa
/-! The guards on total length: zzBytes_.. (19, 21). -/
namespace Go.Proofs.Qxb6604298a
open Go.RowKit
set_option maxHeartbeats 1000000

/-- The call hands back a bool; where it is yes, p holds. -/
def BoolIf (e : Ending) (p : Prop) : Prop := ∃ r, e = .returned (.bool r) ∧ (r = true → p)
theorem BoolIf.no {e : Ending} (p : Prop) (h : e = .returned (.bool false)) : BoolIf e p := ⟨false, h, fun h => by cases h⟩
theorem BoolIf.yes {e : Ending} {p : Prop} (h : e = .returned (.bool true)) (hp : p) : BoolIf e p := ⟨true, h, fun _ => hp⟩

/-- How many details there are in all. -/
def lens : List Mt → Nat
  | [] => 0
  | m :: ms => m.pd.length + m.cd.length + lens ms

theorem lens_append (xs ys : List Mt) : lens (xs ++ ys) = lens xs + lens ys := by
  induction xs with
  | nil => simp [lens]
  | cons x xs ih => simp only [List.cons_append, lens, ih]; omega

theorem lens_get (ms : List Mt) (k : Nat) (h : k < ms.length) : ms[k].pd.length + ms[k].cd.length ≤ lens ms := by
  induction ms generalizing k with
  | nil => simp at h
  | cons m ms ih =>
    cases k with
    | zero => simp [lens]
    | succ k => have := ih k (by simpa using h); simp only [List.getElem_cons_succ, lens]; omega

theorem lens_snoc (ms : List Mt) (k : Nat) (h : k < ms.length) : lens (ms.take (k + 1)) = lens (ms.take k) + (ms[k].pd.length + ms[k].cd.length) := by
  rw [List.take_succ_eq_append_getElem h, lens_append]; simp [lens]

set_option maxRecDepth 100000 in
theorem zb19_some (b off cap : Nat) (ms : List Mt) (w : World)
    (hm : ∀ i (h : i < ms.length), MtAt w b (off + i * 6) ms[i]) :
    Calls Try.prog 19 #[.slice (some ⟨b, off, none⟩) ms.length cap] w fun e w' => BoolIf e (lens ms ≤ 1048576) ∧ w' = w := by
  by_cases hlen : 1048576 < ms.length
  · go_enter Try.func19, Try.ntmps19
    go_wp2
    go_ret
    exact ⟨BoolIf.no _ rfl, rfl⟩
  · go_enter Try.func19, Try.ntmps19
    go_wp2
    go_loop [3, 4] (fun n i => ∃ (k : Nat) (q : Int), k ≤ ms.length ∧ i = .int .i64 k ∧ n = .int .i64 q ∧ (lens (ms.take k) : Int) ≤ q ∧ q ≤ 1048576) (fun _ i => ms.length - (intOf i).toNat)
    case atStart => exact ⟨0, _, Nat.zero_le _, rfl, rfl, by simp [lens], by omega⟩
    case round =>
      obtain ⟨k, q, hk, rfl, rfl, hq1, hq2⟩ := hrel
      by_cases hlt : k < ms.length
      · have HLS := hide (lens_snoc ms k hlt)
        have hat := hm k hlt
        have c4 := hat.pv
        have c5 := hat.cv
        have HPD := hide hat.pd
        have HCD := hide hat.cd
        have hq0 : 0 ≤ q := by omega
        clear hat hm
        generalize ms[k].pa = pa at *
        generalize ms[k].ca = ca at *
        generalize ms[k].pc = pc at *
        generalize ms[k].cc = cc at *
        generalize ms[k].pd = pd at *
        generalize ms[k].cd = cd at *
        by_cases hp : 1048576 < pd.length
        · go_wp2
          go_ret
          exact ⟨BoolIf.no _ rfl, rfl⟩
        by_cases hp2 : 1048576 < q + pd.length
        · go_wp2
          go_ret
          exact ⟨BoolIf.no _ rfl, rfl⟩
        go_wp2
        go_loop [3, 5] (fun n i => ∃ (j : Nat) (r : Int), j ≤ pd.length ∧ i = .int .i64 j ∧ n = .int .i64 r ∧ q + pd.length ≤ r ∧ r ≤ 1048576) (fun _ i => pd.length - (intOf i).toNat)
        case atStart => exact ⟨0, _, Nat.zero_le _, rfl, rfl, by omega, by omega⟩
        case round =>
          obtain ⟨j, r, hj, rfl, rfl, hr1, hr2⟩ := hrel
          by_cases hjt : j < pd.length
          · rcases unhide HPD with h0 | ⟨b', o', hpa, hc⟩
            · rw [h0] at hjt; simp at hjt
            have hc0 := (hc j hjt).1
            clear hc
            subst hpa
            go_wp2
            · go_ret
              exact ⟨BoolIf.no _ rfl, rfl⟩
            · go_ret
              exact ⟨BoolIf.no _ rfl, rfl⟩
            · go_round
              case rel => exact ⟨j + 1, _, by omega, by go_num, rfl, by omega, by omega⟩
              case measure => simp [intOf]; omega
          · have hjt' : pd.length ≤ j := by omega
            by_cases hc : 1048576 < cd.length
            · go_wp2
              go_ret
              exact ⟨BoolIf.no _ rfl, rfl⟩
            by_cases hc2 : 1048576 < r + cd.length
            · go_wp2
              go_ret
              exact ⟨BoolIf.no _ rfl, rfl⟩
            go_wp2
            go_loop [3, 6] (fun n i => ∃ (j : Nat) (r' : Int), j ≤ cd.length ∧ i = .int .i64 j ∧ n = .int .i64 r' ∧ r + cd.length ≤ r' ∧ r' ≤ 1048576) (fun _ i => cd.length - (intOf i).toNat)
            case atStart => exact ⟨0, _, Nat.zero_le _, rfl, rfl, by omega, by omega⟩
            case round =>
              obtain ⟨i, r', hi, rfl, rfl, hs1, hs2⟩ := hrel
              by_cases hit : i < cd.length
              · rcases unhide HCD with h0 | ⟨b', o', hpa, hc⟩
                · rw [h0] at hit; simp at hit
                have hc0 := (hc i hit).1
                clear hc
                subst hpa
                go_wp2
                · go_ret
                  exact ⟨BoolIf.no _ rfl, rfl⟩
                · go_ret
                  exact ⟨BoolIf.no _ rfl, rfl⟩
                · go_round
                  case rel => exact ⟨i + 1, _, by omega, by go_num, rfl, by omega, by omega⟩
                  case measure => simp [intOf]; omega
              · go_wp2
                go_round
                case rel => exact ⟨k + 1, r', by omega, by go_num, rfl, by rw [unhide HLS]; omega, by omega⟩
                case measure => simp [intOf]; omega
      · go_wp2
        go_ret
        refine ⟨BoolIf.yes rfl ?_, rfl⟩
        rw [List.take_of_length_le (by omega)] at hq1
        omega

theorem zb19_none (a : Option Addr) (cap : Nat) (w : World) :
    Calls Try.prog 19 #[.slice a 0 cap] w fun e w' => BoolIf e (lens [] ≤ 1048576) ∧ w' = w := by
  go_enter Try.func19, Try.ntmps19
  go_wp2
  refine wp_loop_rounds 1 ?_
  rw [rounds_succ]
  go_wp2
  go_ret
  exact ⟨BoolIf.yes rfl (by simp [lens]), rfl⟩

set_option maxRecDepth 100000 in
theorem zb21_some (b off cap : Nat) (ms : List Mt) (w : World)
    (hm : ∀ i (h : i < ms.length), MtAt w b (off + i * 6) ms[i]) :
    Calls Try.prog 21 #[.slice (some ⟨b, off, none⟩) ms.length cap] w fun e w' => BoolIf e (lens ms ≤ 1048576) ∧ w' = w := by
  by_cases hlen : 1048576 < ms.length
  · go_enter Try.func21, Try.ntmps21
    go_wp2
    go_ret
    exact ⟨BoolIf.no _ rfl, rfl⟩
  · go_enter Try.func21, Try.ntmps21
    go_wp2
    go_loop [3, 4] (fun n i => ∃ (k : Nat) (q : Int), k ≤ ms.length ∧ i = .int .i64 k ∧ n = .int .i64 q ∧ (lens (ms.take k) : Int) ≤ q ∧ q ≤ 1048576) (fun _ i => ms.length - (intOf i).toNat)
    case atStart => exact ⟨0, _, Nat.zero_le _, rfl, rfl, by simp [lens], by omega⟩
    case round =>
      obtain ⟨k, q, hk, rfl, rfl, hq1, hq2⟩ := hrel
      by_cases hlt : k < ms.length
      · have HLS := hide (lens_snoc ms k hlt)
        have hat := hm k hlt
        have c4 := hat.pv
        have c5 := hat.cv
        have HPD := hide hat.pd
        have HCD := hide hat.cd
        have hq0 : 0 ≤ q := by omega
        clear hat hm
        generalize ms[k].pa = pa at *
        generalize ms[k].ca = ca at *
        generalize ms[k].pc = pc at *
        generalize ms[k].cc = cc at *
        generalize ms[k].pd = pd at *
        generalize ms[k].cd = cd at *
        by_cases hp : 1048576 < pd.length
        · go_wp2
          go_ret
          exact ⟨BoolIf.no _ rfl, rfl⟩
        by_cases hp2 : 1048576 < q + pd.length
        · go_wp2
          go_ret
          exact ⟨BoolIf.no _ rfl, rfl⟩
        go_wp2
        go_loop [3, 5] (fun n i => ∃ (j : Nat) (r : Int), j ≤ pd.length ∧ i = .int .i64 j ∧ n = .int .i64 r ∧ q + pd.length ≤ r ∧ r ≤ 1048576) (fun _ i => pd.length - (intOf i).toNat)
        case atStart => exact ⟨0, _, Nat.zero_le _, rfl, rfl, by omega, by omega⟩
        case round =>
          obtain ⟨j, r, hj, rfl, rfl, hr1, hr2⟩ := hrel
          by_cases hjt : j < pd.length
          · rcases unhide HPD with h0 | ⟨b', o', hpa, hc⟩
            · rw [h0] at hjt; simp at hjt
            have hc0 := (hc j hjt).1
            clear hc
            subst hpa
            go_wp2
            · go_ret
              exact ⟨BoolIf.no _ rfl, rfl⟩
            · go_ret
              exact ⟨BoolIf.no _ rfl, rfl⟩
            · go_round
              case rel => exact ⟨j + 1, _, by omega, by go_num, rfl, by omega, by omega⟩
              case measure => simp [intOf]; omega
          · have hjt' : pd.length ≤ j := by omega
            by_cases hc : 1048576 < cd.length
            · go_wp2
              go_ret
              exact ⟨BoolIf.no _ rfl, rfl⟩
            by_cases hc2 : 1048576 < r + cd.length
            · go_wp2
              go_ret
              exact ⟨BoolIf.no _ rfl, rfl⟩
            go_wp2
            go_loop [3, 6] (fun n i => ∃ (j : Nat) (r' : Int), j ≤ cd.length ∧ i = .int .i64 j ∧ n = .int .i64 r' ∧ r + cd.length ≤ r' ∧ r' ≤ 1048576) (fun _ i => cd.length - (intOf i).toNat)
            case atStart => exact ⟨0, _, Nat.zero_le _, rfl, rfl, by omega, by omega⟩
            case round =>
              obtain ⟨i, r', hi, rfl, rfl, hs1, hs2⟩ := hrel
              by_cases hit : i < cd.length
              · rcases unhide HCD with h0 | ⟨b', o', hpa, hc⟩
                · rw [h0] at hit; simp at hit
                have hc0 := (hc i hit).1
                clear hc
                subst hpa
                go_wp2
                · go_ret
                  exact ⟨BoolIf.no _ rfl, rfl⟩
                · go_ret
                  exact ⟨BoolIf.no _ rfl, rfl⟩
                · go_round
                  case rel => exact ⟨i + 1, _, by omega, by go_num, rfl, by omega, by omega⟩
                  case measure => simp [intOf]; omega
              · go_wp2
                go_round
                case rel => exact ⟨k + 1, r', by omega, by go_num, rfl, by rw [unhide HLS]; omega, by omega⟩
                case measure => simp [intOf]; omega
      · go_wp2
        go_ret
        refine ⟨BoolIf.yes rfl ?_, rfl⟩
        rw [List.take_of_length_le (by omega)] at hq1
        omega

theorem zb21_none (a : Option Addr) (cap : Nat) (w : World) :
    Calls Try.prog 21 #[.slice a 0 cap] w fun e w' => BoolIf e (lens [] ≤ 1048576) ∧ w' = w := by
  go_enter Try.func21, Try.ntmps21
  go_wp2
  refine wp_loop_rounds 1 ?_
  rw [rounds_succ]
  go_wp2
  go_ret
  exact ⟨BoolIf.yes rfl (by simp [lens]), rfl⟩
end Go.Proofs.Qxb6604298a
