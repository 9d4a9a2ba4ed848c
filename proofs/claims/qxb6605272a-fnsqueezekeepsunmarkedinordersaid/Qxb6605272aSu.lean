import Derived.Test.Qxb6605272aSt
/-! The bounds on total length (23, 31). -/
namespace Go.Proofs.Qxb6605272a
open Go.RowKit
set_option maxHeartbeats 4000000
set_option maxRecDepth 100000

/-- A truth value, whichever. -/
def Says (e : Ending) : Prop := e = .returned (.bool true) ∨ e = .returned (.bool false)
theorem Says.t : Says (.returned (.bool true)) := Or.inl rfl
theorem Says.f : Says (.returned (.bool false)) := Or.inr rfl

theorem zb23 (a1 a2 a3 a4 a5 : Option Addr) (n1 n2 n3 n4 n5 c1 c2 c3 c4 c5 : Nat) (K V : Nat → ByteArray) (d p : Int) (r : Bool) (w : World)
    (hk : Vec w a2 n2 (fun i => .string (K i))) (hv : Vec w a3 n3 (fun i => .string (V i))) :
    Calls Try.prog 23 #[.slice a1 n1 c1, .slice a2 n2 c2, .slice a3 n3 c3, .slice a4 n4 c4, .slice a5 n5 c5, .int .i64 d, .int .u64 p, .bool r] w fun e w' =>
      Says e ∧ w' = w := by
  have HK := hide hk
  have HV := hide hv
  clear hk hv
  go_enter Try.func23, Try.ntmps23
  by_cases t1 : (1048576 : Int) < (n1 : Int)
  · go_wp2
    go_ret
    exact ⟨Says.f, rfl⟩
  by_cases t2 : (1048576 : Int) < (n2 : Int)
  · go_wp2
    go_ret
    exact ⟨Says.f, rfl⟩
  by_cases t3 : (1048576 : Int) < (n1 : Int) + (n2 : Int)
  · go_wp2
    go_ret
    exact ⟨Says.f, rfl⟩
  go_wp2
  go_loop [17, 18] (fun t i => ∃ (T k : Nat), T ≤ 1048576 ∧ t = .int .i64 (T : Int) ∧ k ≤ n2 ∧ i = .int .i64 (k : Int)) (fun _ i => n2 - (intOf i).toNat)
  case atStart => exact ⟨n1 + n2, 0, by omega, by go_num, Nat.zero_le _, rfl⟩
  case round =>
    obtain ⟨T, k, hT, rfl, hk, rfl⟩ := hrel
    by_cases hlt : k < n2
    · rcases unhide HK with h0 | ⟨b, off, rfl, hc⟩
      · omega
      have hck := hc k hlt
      clear hc
      simp only at hck
      generalize K k = s at hck
      by_cases u1 : (1048576 : Int) < (s.size : Int)
      · go_wp2
        go_ret
        exact ⟨Says.f, rfl⟩
      by_cases u2 : (1048576 : Int) < (T : Int) + (s.size : Int)
      · go_wp2
        go_ret
        exact ⟨Says.f, rfl⟩
      go_wp2
      go_round
      case rel => exact ⟨T + s.size, k + 1, by omega, by go_num, by omega, by go_num⟩
      case measure => simp [intOf]; omega
    · clear t1 t2 t3
      by_cases t1 : (1048576 : Int) < (n3 : Int)
      · go_wp2
        go_ret
        exact ⟨Says.f, rfl⟩
      by_cases t3 : (1048576 : Int) < (T : Int) + (n3 : Int)
      · go_wp2
        go_ret
        exact ⟨Says.f, rfl⟩
      go_wp2
      go_loop [17, 19] (fun t i => ∃ (T k : Nat), T ≤ 1048576 ∧ t = .int .i64 (T : Int) ∧ k ≤ n3 ∧ i = .int .i64 (k : Int)) (fun _ i => n3 - (intOf i).toNat)
      case atStart => exact ⟨T + n3, 0, by omega, by go_num, Nat.zero_le _, rfl⟩
      case round =>
        obtain ⟨U, j, hU, rfl, hj, rfl⟩ := hrel
        by_cases hlt : j < n3
        · rcases unhide HV with h0 | ⟨b, off, rfl, hc⟩
          · omega
          have hck := hc j hlt
          clear hc
          simp only at hck
          generalize V j = s at hck
          by_cases u1 : (1048576 : Int) < (s.size : Int)
          · go_wp2
            go_ret
            exact ⟨Says.f, rfl⟩
          by_cases u2 : (1048576 : Int) < (U : Int) + (s.size : Int)
          · go_wp2
            go_ret
            exact ⟨Says.f, rfl⟩
          go_wp2
          go_round
          case rel => exact ⟨U + s.size, j + 1, by omega, by go_num, by omega, by go_num⟩
          case measure => simp [intOf]; omega
        · clear t1 t3
          by_cases t1 : (1048576 : Int) < (n4 : Int)
          · go_wp2
            go_ret
            exact ⟨Says.f, rfl⟩
          by_cases t2 : (1048576 : Int) < (U : Int) + (n4 : Int)
          · go_wp2
            go_ret
            exact ⟨Says.f, rfl⟩
          by_cases t3 : (1048576 : Int) < (n5 : Int)
          · go_wp2
            go_ret
            exact ⟨Says.f, rfl⟩
          by_cases t4 : (1048576 : Int) < (U : Int) + (n4 : Int) + (n5 : Int)
          · go_wp2
            go_ret
            exact ⟨Says.f, rfl⟩
          go_wp2
          go_ret
          exact ⟨Says.t, rfl⟩

theorem zb31 (a1 a2 a3 a4 a5 : Option Addr) (n1 n2 n3 n4 n5 c1 c2 c3 c4 c5 : Nat) (K V : Nat → ByteArray) (d p : Int) (r : Bool) (w : World)
    (hk : Vec w a2 n2 (fun i => .string (K i))) (hv : Vec w a3 n3 (fun i => .string (V i))) :
    Calls Try.prog 31 #[.slice a1 n1 c1, .slice a2 n2 c2, .slice a3 n3 c3, .slice a4 n4 c4, .slice a5 n5 c5, .int .i64 d, .int .u64 p, .bool r] w fun e w' =>
      Says e ∧ w' = w := by
  have HK := hide hk
  have HV := hide hv
  clear hk hv
  go_enter Try.func31, Try.ntmps31
  by_cases t1 : (1048576 : Int) < (n1 : Int)
  · go_wp2
    go_ret
    exact ⟨Says.f, rfl⟩
  by_cases t2 : (1048576 : Int) < (n2 : Int)
  · go_wp2
    go_ret
    exact ⟨Says.f, rfl⟩
  by_cases t3 : (1048576 : Int) < (n1 : Int) + (n2 : Int)
  · go_wp2
    go_ret
    exact ⟨Says.f, rfl⟩
  go_wp2
  go_loop [17, 18] (fun t i => ∃ (T k : Nat), T ≤ 1048576 ∧ t = .int .i64 (T : Int) ∧ k ≤ n2 ∧ i = .int .i64 (k : Int)) (fun _ i => n2 - (intOf i).toNat)
  case atStart => exact ⟨n1 + n2, 0, by omega, by go_num, Nat.zero_le _, rfl⟩
  case round =>
    obtain ⟨T, k, hT, rfl, hk, rfl⟩ := hrel
    by_cases hlt : k < n2
    · rcases unhide HK with h0 | ⟨b, off, rfl, hc⟩
      · omega
      have hck := hc k hlt
      clear hc
      simp only at hck
      generalize K k = s at hck
      by_cases u1 : (1048576 : Int) < (s.size : Int)
      · go_wp2
        go_ret
        exact ⟨Says.f, rfl⟩
      by_cases u2 : (1048576 : Int) < (T : Int) + (s.size : Int)
      · go_wp2
        go_ret
        exact ⟨Says.f, rfl⟩
      go_wp2
      go_round
      case rel => exact ⟨T + s.size, k + 1, by omega, by go_num, by omega, by go_num⟩
      case measure => simp [intOf]; omega
    · clear t1 t2 t3
      by_cases t1 : (1048576 : Int) < (n3 : Int)
      · go_wp2
        go_ret
        exact ⟨Says.f, rfl⟩
      by_cases t3 : (1048576 : Int) < (T : Int) + (n3 : Int)
      · go_wp2
        go_ret
        exact ⟨Says.f, rfl⟩
      go_wp2
      go_loop [17, 19] (fun t i => ∃ (T k : Nat), T ≤ 1048576 ∧ t = .int .i64 (T : Int) ∧ k ≤ n3 ∧ i = .int .i64 (k : Int)) (fun _ i => n3 - (intOf i).toNat)
      case atStart => exact ⟨T + n3, 0, by omega, by go_num, Nat.zero_le _, rfl⟩
      case round =>
        obtain ⟨U, j, hU, rfl, hj, rfl⟩ := hrel
        by_cases hlt : j < n3
        · rcases unhide HV with h0 | ⟨b, off, rfl, hc⟩
          · omega
          have hck := hc j hlt
          clear hc
          simp only at hck
          generalize V j = s at hck
          by_cases u1 : (1048576 : Int) < (s.size : Int)
          · go_wp2
            go_ret
            exact ⟨Says.f, rfl⟩
          by_cases u2 : (1048576 : Int) < (U : Int) + (s.size : Int)
          · go_wp2
            go_ret
            exact ⟨Says.f, rfl⟩
          go_wp2
          go_round
          case rel => exact ⟨U + s.size, j + 1, by omega, by go_num, by omega, by go_num⟩
          case measure => simp [intOf]; omega
        · clear t1 t3
          by_cases t1 : (1048576 : Int) < (n4 : Int)
          · go_wp2
            go_ret
            exact ⟨Says.f, rfl⟩
          by_cases t2 : (1048576 : Int) < (U : Int) + (n4 : Int)
          · go_wp2
            go_ret
            exact ⟨Says.f, rfl⟩
          by_cases t3 : (1048576 : Int) < (n5 : Int)
          · go_wp2
            go_ret
            exact ⟨Says.f, rfl⟩
          by_cases t4 : (1048576 : Int) < (U : Int) + (n4 : Int) + (n5 : Int)
          · go_wp2
            go_ret
            exact ⟨Says.f, rfl⟩
          go_wp2
          go_ret
          exact ⟨Says.t, rfl⟩
end Go.Proofs.Qxb6605272a
