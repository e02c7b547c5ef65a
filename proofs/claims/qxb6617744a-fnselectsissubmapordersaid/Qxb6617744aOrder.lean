import Derived.Test.Qxb6617744aPlain
namespace Go.Proofs.Qxb6617744a
open Go.RowKit Go.Maps

section
variable {H : Type} (kind : Int) (name ns : ByteArray) (o a b c : Option Nat) (Do A B C : DataW H) (w : World)

theorem order_g1 (h : 524288 < name.size) (hm : name.size ≤ maxLen) :
    Calls Try.prog 4 #[.int .i64 kind, .string name, .string ns, .map o, .map a, .map b, .map c] w fun e w' => e = .returned (.bool true) ∧ Below w.heap.size w w' := by
  unfold maxLen at hm
  have hd : decide ((524288 : Int) < (name.size : Int)) = true := by simp; omega
  go_enter Try.func4, Try.ntmps4
  go_wp2
  go_ret
  exact ⟨rfl, Below.refl _ _⟩

theorem order_g2 (h : name.size ≤ 524288) (h2 : 524288 < ns.size) (hm : ns.size ≤ maxLen) :
    Calls Try.prog 4 #[.int .i64 kind, .string name, .string ns, .map o, .map a, .map b, .map c] w fun e w' => e = .returned (.bool true) ∧ Below w.heap.size w w' := by
  unfold maxLen at hm
  have hd : decide ((524288 : Int) < (name.size : Int)) = false := by simp; omega
  have hd2 : decide ((524288 : Int) < (ns.size : Int)) = true := by simp; omega
  go_enter Try.func4, Try.ntmps4
  go_wp2
  go_ret
  exact ⟨rfl, Below.refl _ _⟩

theorem order_g3 (h : name.size ≤ 524288) (h2 : ns.size ≤ 524288) (ho : MapIs w (.map o) Do) (ha : MapIs w (.map a) A) (hb : MapIs w (.map b) B) (hc : MapIs w (.map c) C)
    (hx : 65536 < Maps.size Do ∨ 65536 < Maps.size A ∨ 65536 < Maps.size B ∨ 65536 < Maps.size C) :
    Calls Try.prog 4 #[.int .i64 kind, .string name, .string ns, .map o, .map a, .map b, .map c] w fun e w' => e = .returned (.bool true) ∧ Below w.heap.size w w' := by
  have hd : decide ((524288 : Int) < (name.size : Int)) = false := by simp; omega
  have hd2 : decide ((524288 : Int) < (ns.size : Int)) = false := by simp; omega
  have lo := len_ok ho
  have la := len_ok ha
  have lb := len_ok hb
  have lc := len_ok hc
  clear ho ha hb hc
  generalize Maps.size Do = so at *
  generalize Maps.size A = sa at *
  generalize Maps.size B = sb at *
  generalize Maps.size C = sc at *
  by_cases h3 : 65536 < so
  · have hd3 : decide ((65536 : Int) < (so : Int)) = true := by simp; omega
    clear hx
    go_enter Try.func4, Try.ntmps4
    go_wp2
    go_ret
    exact ⟨rfl, Below.refl _ _⟩
  have hd3 : decide ((65536 : Int) < (so : Int)) = false := by simp; omega
  by_cases h4 : 65536 < sa
  · have hd4 : decide ((65536 : Int) < (sa : Int)) = true := by simp; omega
    clear hx
    go_enter Try.func4, Try.ntmps4
    go_wp2
    go_ret
    exact ⟨rfl, Below.refl _ _⟩
  have hd4 : decide ((65536 : Int) < (sa : Int)) = false := by simp; omega
  by_cases h5 : 65536 < sb
  · have hd5 : decide ((65536 : Int) < (sb : Int)) = true := by simp; omega
    clear hx
    go_enter Try.func4, Try.ntmps4
    go_wp2
    go_ret
    exact ⟨rfl, Below.refl _ _⟩
  have hd5 : decide ((65536 : Int) < (sb : Int)) = false := by simp; omega
  have hd6 : decide ((65536 : Int) < (sc : Int)) = true := by simp; omega
  clear hx
  go_enter Try.func4, Try.ntmps4
  go_wp2
  go_ret
  exact ⟨rfl, Below.refl _ _⟩

set_option maxHeartbeats 1000000 in
theorem order_main (h : name.size ≤ 524288) (h2 : ns.size ≤ 524288) (ho : MapIs w (.map o) Do) (ha : MapIs w (.map a) A) (hb : MapIs w (.map b) B) (hc : MapIs w (.map c) C)
    (s1 : Maps.size Do ≤ 65536) (s2 : Maps.size A ≤ 65536) (s3 : Maps.size B ≤ 65536) (s4 : Maps.size C ≤ 65536) :
    Calls Try.prog 4 #[.int .i64 kind, .string name, .string ns, .map o, .map a, .map b, .map c] w fun e w' => e = .returned (.bool true) ∧ Below w.heap.size w w' := by
  have hd : decide ((524288 : Int) < (name.size : Int)) = false := by simp; omega
  have hd2 : decide ((524288 : Int) < (ns.size : Int)) = false := by simp; omega
  have lo := len_ok ho
  have la := len_ok ha
  have lb := len_ok hb
  have lc := len_ok hc
  have HA : Hid (MapIs w (.map a) A) := ha
  have HB : Hid (MapIs w (.map b) B) := hb
  have HC : Hid (MapIs w (.map c) C) := hc
  have f2 : Hid (Sel A B → Maps.size A ≤ Maps.size B) := fun h => Sel.size_le ha.good hb.good h
  have f3 : Hid (Sel A B → Maps.size A = Maps.size B → Sel B A) := fun h hl => Sel.back ha.good hb.good h hl
  clear ho ha hb hc
  generalize hso : Maps.size Do = so at *
  generalize hsa : Maps.size A = sa at *
  generalize hsb : Maps.size B = sb at *
  generalize hsc : Maps.size C = sc at *
  have HSA : Hid _ := hsa
  have HSB : Hid _ := hsb
  clear hso hsa hsb hsc
  have hd3 : decide ((65536 : Int) < (so : Int)) = false := by simp; omega
  have hd4 : decide ((65536 : Int) < (sa : Int)) = false := by simp; omega
  have hd5 : decide ((65536 : Int) < (sb : Int)) = false := by simp; omega
  have hd6 : decide ((65536 : Int) < (sc : Int)) = false := by simp; omega
  go_enter Try.func4, Try.ntmps4
  go_wp2_with fail
  refine (zzsel_any kind name ns o a a A A w HA.out HA.out).mono ?_
  rintro e w1 ⟨x1, rfl, hx1, b1⟩
  obtain rfl : x1 = true := hx1.2 (Sel.refl A)
  clear hx1
  go_wp2_with fail
  have B1 : Hid (Below w.heap.size w w1) := b1
  clear b1
  refine (zzsel_any kind name ns o a b A B w1 (HA.out.next B1.out) (HB.out.next B1.out)).mono ?_
  rintro e w2 ⟨x2, rfl, hx2, b2⟩
  have B2 : Hid (Below w.heap.size w w2) := B1.out.trans (b2.mono B1.out.size)
  have X2 : Hid _ := hx2
  clear b2 hx2
  go_wp2_with fail
  refine (zzsel_any kind name ns o b c B C w2 (HB.out.next B2.out) (HC.out.next B2.out)).mono ?_
  rintro e w3 ⟨x3, rfl, hx3, b3⟩
  have B3 : Hid (Below w.heap.size w w3) := B2.out.trans (b3.mono B2.out.size)
  have X3 : Hid _ := hx3
  clear b3 hx3
  go_wp2_with fail
  refine (zzsel_any kind name ns o a c A C w3 (HA.out.next B3.out) (HC.out.next B3.out)).mono ?_
  rintro e w4 ⟨x4, rfl, hx4, b4⟩
  have B4 : Hid (Below w.heap.size w w4) := B3.out.trans (b4.mono B3.out.size)
  have X4 : Hid _ := hx4
  clear b4 hx4
  go_wp2_with fail
  refine (zzsel_any kind name ns o b a B A w4 (HB.out.next B4.out) (HA.out.next B4.out)).mono ?_
  rintro e w5 ⟨x5, rfl, hx5, b5⟩
  have B5 : Hid (Below w.heap.size w w5) := B4.out.trans (b5.mono B4.out.size)
  have X5 : Hid _ := hx5
  clear b5 hx5
  have la5 := len_ok (HA.out.next B5.out)
  have lb5 := len_ok (HB.out.next B5.out)
  rw [HSA.out] at la5
  rw [HSB.out] at lb5
  clear la lb lc lo hd hd2 hd3 hd4 hd5 hd6
  cases hx2 : x2
  · go_wp2
    go_ret
    exact ⟨rfl, B5.out⟩
  · have hab := X2.out.1 hx2
    have hle := f2.out hab
    have f3' := f3.out hab
    have hd7 : decide ((sb : Int) < (sa : Int)) = false := by simp; omega
    have f1 : x3 = true → x4 = true := fun h3 => X4.out.2 (hab.trans (X3.out.1 h3))
    have F5 : Hid (sa = sb → x5 = true) := fun e => X5.out.2 (f3' e)
    clear hab f3' hx2
    have hx34 : (x3 && !x4) = false := by
      cases x3
      · rfl
      · rw [f1 rfl]; rfl
    clear f1
    by_cases hes : sa = sb
    · have h5 := F5.out hes
      have hde : ((sa : Int) == (sb : Int)) = true := by simp; omega
      clear F5 f2 f3 X2 X3 X4 X5
      have HE : Hid _ := hes
      clear hes
      subst h5
      cases x3
      · go_wp2
        go_ret
        exact ⟨rfl, B5.out⟩
      · have h4 : x4 = true := by simpa using hx34
        subst h4
        go_wp2
        go_ret
        exact ⟨rfl, B5.out⟩
    · have hde : ((sa : Int) == (sb : Int)) = false := by simp; omega
      clear F5 f2 f3 X2 X3 X4 X5 hes
      cases x3
      · go_wp2
        go_ret
        exact ⟨rfl, B5.out⟩
      · have h4 : x4 = true := by simpa using hx34
        subst h4
        go_wp2
        go_ret
        exact ⟨rfl, B5.out⟩
end
end Go.Proofs.Qxb6617744a
