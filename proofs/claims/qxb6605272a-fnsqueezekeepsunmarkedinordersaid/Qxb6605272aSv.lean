import Derived.Test.Qxb6605272aSu
/-! itemsFit (24). -/
namespace Go.Proofs.Qxb6605272a
open Go.RowKit
set_option maxHeartbeats 4000000
set_option maxRecDepth 100000

/-- What itemsFit says: yes only where the five lengths are one, and small. -/
def Fits (n1 n2 n3 n4 n5 : Nat) (e : Ending) : Prop := (e = .returned (.bool true) ∧ n2 = n1 ∧ n3 = n1 ∧ n4 = n1 ∧ n5 = n1 ∧ n1 ≤ 65536) ∨ e = .returned (.bool false)
theorem Fits.f {n1 n2 n3 n4 n5 : Nat} : Fits n1 n2 n3 n4 n5 (.returned (.bool false)) := Or.inr rfl

theorem fit_any (a1 a2 a3 a4 a5 : Option Addr) (n1 n2 n3 n4 n5 c1 c2 c3 c4 c5 : Nat) (K V : Nat → ByteArray) (w : World)
    (hk : Vec w a2 n2 (fun i => .string (K i))) (hv : Vec w a3 n3 (fun i => .string (V i))) :
    Calls Try.prog 24 #[.slice a1 n1 c1, .slice a2 n2 c2, .slice a3 n3 c3, .slice a4 n4 c4, .slice a5 n5 c5] w fun e w' =>
      Fits n1 n2 n3 n4 n5 e ∧ w' = w := by
  have HK := hide hk
  have HV := hide hv
  clear hk hv
  go_enter Try.func24, Try.ntmps24
  by_cases t1 : (65536 : Int) < (n1 : Int)
  · go_wp2
    go_ret
    exact ⟨Fits.f, rfl⟩
  by_cases t2 : (65536 : Int) < (n2 : Int)
  · go_wp2
    go_ret
    exact ⟨Fits.f, rfl⟩
  by_cases t3 : (65536 : Int) < (n3 : Int)
  · go_wp2
    go_ret
    exact ⟨Fits.f, rfl⟩
  by_cases t4 : (65536 : Int) < (n4 : Int)
  · go_wp2
    go_ret
    exact ⟨Fits.f, rfl⟩
  by_cases t5 : (65536 : Int) < (n5 : Int)
  · go_wp2
    go_ret
    exact ⟨Fits.f, rfl⟩
  by_cases t6 : (1048576 : Int) < 8 * (n1 : Int) + 8 * (n5 : Int) + (n4 : Int) + 16 * (n2 : Int) + 16 * (n3 : Int)
  · go_wp2
    go_ret
    exact ⟨Fits.f, rfl⟩
  go_wp2
  go_loop [11, 12] (fun t i => ∃ (T : Int) (k : Nat), t = .int .i64 T ∧ k ≤ n2 ∧ i = .int .i64 (k : Int)) (fun _ i => n2 - (intOf i).toNat)
  case atStart => exact ⟨_, 0, rfl, Nat.zero_le _, rfl⟩
  case round =>
    obtain ⟨T, k, rfl, hk, rfl⟩ := hrel
    by_cases hlt : k < n2
    · rcases unhide HK with h0 | ⟨b, off, rfl, hc⟩
      · omega
      have hck := hc k hlt
      clear hc
      simp only at hck
      generalize K k = s at hck
      by_cases u2 : (1048576 : Int) < wrap64 (T + (s.size : Int))
      · go_wp2
        go_ret
        exact ⟨Fits.f, rfl⟩
      go_wp2
      go_round
      case rel => exact ⟨_, k + 1, rfl, by omega, by go_num⟩
      case measure => simp [intOf]; omega
    · go_wp2
      go_loop [11, 13] (fun t i => ∃ (T : Int) (k : Nat), t = .int .i64 T ∧ k ≤ n3 ∧ i = .int .i64 (k : Int)) (fun _ i => n3 - (intOf i).toNat)
      case atStart => exact ⟨_, 0, rfl, Nat.zero_le _, rfl⟩
      case round =>
        obtain ⟨U, j, rfl, hj, rfl⟩ := hrel
        by_cases hlt : j < n3
        · rcases unhide HV with h0 | ⟨b, off, rfl, hc⟩
          · omega
          have hck := hc j hlt
          clear hc
          simp only at hck
          generalize V j = s at hck
          by_cases u2 : (1048576 : Int) < wrap64 (U + (s.size : Int))
          · go_wp2
            go_ret
            exact ⟨Fits.f, rfl⟩
          go_wp2
          go_round
          case rel => exact ⟨_, j + 1, rfl, by omega, by go_num⟩
          case measure => simp [intOf]; omega
        · by_cases e2 : n2 = n1
          · by_cases e3 : n3 = n1
            · by_cases e4 : n4 = n1
              · by_cases e5 : n5 = n1
                · have hle : n1 ≤ 65536 := by omega
                  go_wp2
                  go_ret
                  exact ⟨Or.inl ⟨rfl, by first | rfl | assumption, by first | rfl | assumption, by first | rfl | assumption, by first | rfl | assumption, hle⟩, rfl⟩
                · have hq : ((n5 : Int) == (n1 : Int)) = false := beq_false_of_ne (by omega)
                  go_wp2
                  go_ret
                  exact ⟨Fits.f, rfl⟩
              · have hq : ((n4 : Int) == (n1 : Int)) = false := beq_false_of_ne (by omega)
                go_wp2
                go_ret
                exact ⟨Fits.f, rfl⟩
            · have hq : ((n3 : Int) == (n1 : Int)) = false := beq_false_of_ne (by omega)
              go_wp2
              go_ret
              exact ⟨Fits.f, rfl⟩
          · have hq : ((n2 : Int) == (n1 : Int)) = false := beq_false_of_ne (by omega)
            go_wp2
            go_ret
            exact ⟨Fits.f, rfl⟩
end Go.Proofs.Qxb6605272a
