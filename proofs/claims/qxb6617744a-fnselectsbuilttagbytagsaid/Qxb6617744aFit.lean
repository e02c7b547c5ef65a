import Derived.Test.Qxb6617744aPlain
namespace Go.Proofs.Qxb6617744a
open Go.RowKit Go.Maps

/-- WHAT THE WALK IS TOLD OF A SLICE OF STRINGS THAT CAME IN: its first 'len' cells read as 'ss'. -/
def IsStrs (w : World) (a : Option Addr) (len : Nat) (ss : List ByteArray) : Prop :=
  len = 0 ∨ ∃ x, a = some x ∧ ∀ i, i < len → w.cell? (x.add i) = some (.string (ss.getD i ByteArray.empty)) ∧ (ss.getD i ByteArray.empty).size ≤ maxLen

theorem IsStrs.at {w : World} {a : Option Addr} {len : Nat} {ss : List ByteArray} (h : IsStrs w a len ss) {i : Nat} (hi : i < len) :
    ∃ x s, a = some x ∧ s = ss.getD i ByteArray.empty ∧ w.cell? (x.add i) = some (.string s) ∧ s.size ≤ maxLen := by
  rcases h with h | ⟨x, hx, h⟩
  · omega
  · exact ⟨x, _, hx, rfl, (h i hi).1, (h i hi).2⟩

/-- It returned a bool. -/
def RetBool (e : Ending) : Prop := ∃ x, e = .returned (.bool x)

set_option maxHeartbeats 1000000 in
theorem fit_any (name ns k v : ByteArray) (ia va : Option Addr) (il ic vl vc : Nat) (is vs : List ByteArray) (w : World)
    (h1 : name.size ≤ maxLen) (h2 : ns.size ≤ maxLen) (h3 : k.size ≤ maxLen) (h4 : v.size ≤ maxLen) (hi : IsStrs w ia il is) (hv : IsStrs w va vl vs) (hil : il ≤ 4096) (hvl : vl ≤ 4096) :
    Calls Try.prog 5 #[.string name, .string ns, .string k, .string v, .slice ia il ic, .slice va vl vc] w fun e w' => RetBool e ∧ w = w' := by
  unfold maxLen at h1 h2 h3 h4
  have HI : Hid (IsStrs w ia il is) := hi
  have HV : Hid (IsStrs w va vl vs) := hv
  clear hi hv
  go_enter Try.func5, Try.ntmps5
  go_wp2
  · go_ret; exact ⟨⟨_, rfl⟩, rfl⟩
  · go_ret; exact ⟨⟨_, rfl⟩, rfl⟩
  · go_ret; exact ⟨⟨_, rfl⟩, rfl⟩
  · go_ret; exact ⟨⟨_, rfl⟩, rfl⟩
  · go_loop [13, 14] (fun t i => ∃ (q : Nat) (m : Int), q ≤ il ∧ 0 ≤ m ∧ m ≤ 1048576 ∧ i = .int .i64 q ∧ t = .int .i64 m) (fun _ i => il - (intOf i).toNat)
    case atStart => exact ⟨0, _, Nat.zero_le _, by omega, by omega, rfl, rfl⟩
    case round =>
      obtain ⟨q, m, hq, hm1, hm2, rfl, rfl⟩ := hrel
      by_cases hlt : q < il
      · obtain ⟨x, s, rfl, -, hcell, hs⟩ := HI.out.at hlt
        unfold maxLen at hs
        by_cases hb : 1048576 - m - 8 < (s.size : Int)
        · go_wp2
          go_ret
          exact ⟨⟨_, rfl⟩, rfl⟩
        · go_wp2
          go_round
          case rel => exact ⟨q + 1, m + (s.size + 8), by omega, by omega, by omega, by go_num, by go_num⟩
          case measure => simp [intOf]; omega
      · go_wp2
        clear hlt hq HI
        go_loop [13, 15] (fun t i => ∃ (q : Nat) (m : Int), q ≤ vl ∧ 0 ≤ m ∧ m ≤ 1048576 ∧ i = .int .i64 q ∧ t = .int .i64 m) (fun _ i => vl - (intOf i).toNat)
        case atStart => exact ⟨0, _, Nat.zero_le _, hm1, hm2, rfl, rfl⟩
        case round =>
          clear hm1 hm2
          obtain ⟨q, m, hq, hm1, hm2, rfl, rfl⟩ := hrel
          by_cases hlt : q < vl
          · obtain ⟨x, s, rfl, -, hcell, hs⟩ := HV.out.at hlt
            unfold maxLen at hs
            by_cases hb : 1048576 - m - 8 < (s.size : Int)
            · go_wp2
              go_ret
              exact ⟨⟨_, rfl⟩, rfl⟩
            · go_wp2
              go_round
              case rel => exact ⟨q + 1, m + (s.size + 8), by omega, by omega, by omega, by go_num, by go_num⟩
              case measure => simp [intOf]; omega
          · go_wp2
            go_ret
            exact ⟨⟨_, rfl⟩, rfl⟩
end Go.Proofs.Qxb6617744a
