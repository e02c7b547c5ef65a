import Derived.Test.Qxb6617744aFit
import Derived.Test.Qxb6617744aBuiltPlain
namespace Go.Proofs.Qxb6617744a
open Go.RowKit Go.Maps

section
variable {H : Type} (kind p : Int) (name ns k v : ByteArray) (o t : Option Nat) (ia va : Option Addr) (il ic vl vc : Nat) (is vs : List ByteArray) (Do T : DataW H) (w : World)

theorem built_g1 (h : 4096 < il ∨ 4096 < vl) (hm : il ≤ maxLen) (hm2 : vl ≤ maxLen) :
    Calls Try.prog 3 #[.int .i64 kind, .string name, .string ns, .map o, .slice ia il ic, .slice va vl vc, .map t, .int .i64 p, .string k, .string v] w fun e w' => e = .returned (.bool true) ∧ Below w.heap.size w w' := by
  unfold maxLen at hm hm2
  by_cases h1 : 4096 < il
  · have hd : decide ((4096 : Int) < (il : Int)) = true := by simp; omega
    clear h
    go_enter Try.func3, Try.ntmps3
    go_wp2
    go_ret
    exact ⟨rfl, Below.refl _ _⟩
  · have hd : decide ((4096 : Int) < (il : Int)) = false := by simp; omega
    have hd2 : decide ((4096 : Int) < (vl : Int)) = true := by simp; omega
    clear h
    go_enter Try.func3, Try.ntmps3
    go_wp2
    go_ret
    exact ⟨rfl, Below.refl _ _⟩

theorem built_g2 (h1 : il ≤ 4096) (h2 : vl ≤ 4096) (ho : MapIs w (.map o) Do) (ht : MapIs w (.map t) T) (h : 65536 < Maps.size Do ∨ 65536 < Maps.size T) :
    Calls Try.prog 3 #[.int .i64 kind, .string name, .string ns, .map o, .slice ia il ic, .slice va vl vc, .map t, .int .i64 p, .string k, .string v] w fun e w' => e = .returned (.bool true) ∧ Below w.heap.size w w' := by
  have hd : decide ((4096 : Int) < (il : Int)) = false := by simp; omega
  have hd2 : decide ((4096 : Int) < (vl : Int)) = false := by simp; omega
  have lo := len_ok ho
  have lt := len_ok ht
  clear ho ht
  generalize Maps.size Do = so at *
  generalize Maps.size T = st at *
  by_cases h3 : 65536 < so
  · have hd3 : decide ((65536 : Int) < (so : Int)) = true := by simp; omega
    clear h
    go_enter Try.func3, Try.ntmps3
    go_wp2
    go_ret
    exact ⟨rfl, Below.refl _ _⟩
  · have hd3 : decide ((65536 : Int) < (so : Int)) = false := by simp; omega
    have hd4 : decide ((65536 : Int) < (st : Int)) = true := by simp; omega
    clear h
    go_enter Try.func3, Try.ntmps3
    go_wp2
    go_ret
    exact ⟨rfl, Below.refl _ _⟩

set_option maxHeartbeats 1000000 in
theorem built_g3 (h1 : il ≤ 4096) (h2 : vl ≤ 4096) (ho : MapIs w (.map o) Do) (ht : MapIs w (.map t) T) (s1 : Maps.size Do ≤ 65536) (s2 : Maps.size T ≤ 65536)
    (m1 : name.size ≤ maxLen) (m2 : ns.size ≤ maxLen) (m3 : k.size ≤ maxLen) (m4 : v.size ≤ maxLen) (hi : IsStrs w ia il is) (hv : IsStrs w va vl vs)
    (hno : il ≠ vl ∨ p < 0 ∨ (il : Int) < p) :
    Calls Try.prog 3 #[.int .i64 kind, .string name, .string ns, .map o, .slice ia il ic, .slice va vl vc, .map t, .int .i64 p, .string k, .string v] w fun e w' => e = .returned (.bool true) ∧ Below w.heap.size w w' := by
  have hd : decide ((4096 : Int) < (il : Int)) = false := by simp; omega
  have hd2 : decide ((4096 : Int) < (vl : Int)) = false := by simp; omega
  have lo := len_ok ho
  have lt := len_ok ht
  clear ho ht
  generalize Maps.size Do = so at *
  generalize Maps.size T = st at *
  have hd3 : decide ((65536 : Int) < (so : Int)) = false := by simp; omega
  have hd4 : decide ((65536 : Int) < (st : Int)) = false := by simp; omega
  have HI : Hid (IsStrs w ia il is) := hi
  have HV : Hid (IsStrs w va vl vs) := hv
  have M1 : Hid _ := m1
  have M2 : Hid _ := m2
  have M3 : Hid _ := m3
  have M4 : Hid _ := m4
  have HN : Hid _ := hno
  clear hi hv m1 m2 m3 m4 hno
  go_enter Try.func3, Try.ntmps3
  go_wp2_with fail
  refine (fit_any name ns k v ia va il ic vl vc is vs w M1.out M2.out M3.out M4.out HI.out HV.out h1 h2).mono ?_
  rintro e w' ⟨⟨x, rfl⟩, rfl⟩
  cases x
  · go_wp2
    go_ret
    exact ⟨rfl, Below.refl _ _⟩
  · by_cases he : il = vl
    · have hne : ((il : Int) != (vl : Int)) = false := by simp; omega
      by_cases hp : p < 0
      · have hdp : decide (p < 0) = true := by simpa using hp
        have HE : Hid _ := he
        clear he
        go_wp2
        go_ret
        exact ⟨rfl, Below.refl _ _⟩
      · have hdp : decide (p < 0) = false := by simpa using hp
        have hdp2 : decide ((il : Int) < p) = true := by have := HN.out; simp; omega
        have HE : Hid _ := he
        clear he
        go_wp2
        go_ret
        exact ⟨rfl, Below.refl _ _⟩
    · have hne : ((il : Int) != (vl : Int)) = true := by simp; omega
      clear he
      go_wp2
      go_ret
      exact ⟨rfl, Below.refl _ _⟩
end
end Go.Proofs.Qxb6617744a
