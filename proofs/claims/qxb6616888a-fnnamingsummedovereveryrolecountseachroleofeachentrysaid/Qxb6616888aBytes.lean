import Derived.Test.Qxb6616888aDist
namespace Go.Proofs.Qxb6616888a
open Go.RowKit

/-- It returned a bool. -/
def RetBool (e : Ending) : Prop := ∃ x, e = .returned (.bool x)

set_option maxHeartbeats 1000000 in
theorem bytes_any (a0 a1 : Option Addr) (n c0 m c1 : Nat) (w : World) (hn : n ≤ maxLen) (hm : m ≤ maxLen) :
    Calls Try.prog 4 #[.slice a0 n c0, .slice a1 m c1] w fun e w' => RetBool e ∧ w = w' := by
  unfold maxLen at hn hm
  by_cases hn2 : 1048576 < n
  · go_enter Try.func4, Try.ntmps4
    go_wp2
    go_ret
    exact ⟨⟨_, rfl⟩, rfl⟩
  go_enter Try.func4, Try.ntmps4
  go_wp2
  go_loop [5, 6] (fun z i => ∃ (k : Nat) (t : Int), k ≤ n ∧ 0 ≤ t ∧ t ≤ 1048576 ∧ z = .int .i64 t ∧ i = .int .i64 k) (fun _ i => n - (intOf i).toNat)
  case atStart => exact ⟨0, _, Nat.zero_le _, by omega, by omega, rfl, rfl⟩
  case round =>
    obtain ⟨k, t, hk, ht1, ht2, rfl, rfl⟩ := hrel
    by_cases hlt : k < n
    · by_cases hb : 1048576 < t + 4
      · go_wp2
        go_ret
        exact ⟨⟨_, rfl⟩, rfl⟩
      · go_wp2
        go_round
        case rel => exact ⟨k + 1, t + 4, by omega, by omega, by omega, by go_num, by go_num⟩
        case measure => simp [intOf]; omega
    · by_cases hm2 : 1048576 < m
      · go_wp2
        go_ret
        exact ⟨⟨_, rfl⟩, rfl⟩
      · by_cases hb : 1048576 < t + m
        · go_wp2
          go_ret
          exact ⟨⟨_, rfl⟩, rfl⟩
        · go_wp2
          clear hlt hk
          go_loop [5, 7] (fun z i => ∃ (k : Nat) (t : Int), k ≤ m ∧ 0 ≤ t ∧ t ≤ 1048576 ∧ z = .int .i64 t ∧ i = .int .i64 k) (fun _ i => m - (intOf i).toNat)
          case atStart => exact ⟨0, _, Nat.zero_le _, by omega, by omega, rfl, rfl⟩
          case round =>
            clear hb ht1 ht2
            obtain ⟨q, t, hq, ht1, ht2, rfl, rfl⟩ := hrel
            by_cases hlt : q < m
            · by_cases hb : 1048576 < t + 3
              · go_wp2
                go_ret
                exact ⟨⟨_, rfl⟩, rfl⟩
              · go_wp2
                go_round
                case rel => exact ⟨q + 1, t + 3, by omega, by omega, by omega, by go_num, by go_num⟩
                case measure => simp [intOf]; omega
            · go_wp2
              go_ret
              exact ⟨⟨_, rfl⟩, rfl⟩
end Go.Proofs.Qxb6616888a
