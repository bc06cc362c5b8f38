import Derived.Test.Qxb6614551aDoorParser
namespace Go.Proofs.Qxb6614551aDoor
open Go.RowKit

theorem PS.sz {W : World} {B bp : Nat} {R : List UInt8} {K : Nat} {t : List UInt8} (h : PS W B bp R K t) : B ≤ W.heap.size := Nat.le_trans h.le (Nat.le_of_lt h.lt)

set_option maxRecDepth 100000 in
set_option maxHeartbeats 2000000 in
/-- r1 = name(rest: a program's line -/
theorem prog_res (hN : NextW) {B bp : Nat} {R0 R1 R2 R3 first name t4 : List UInt8} {K4 n1 n2 n3 n4 : Nat} {w : World} (hP : PS w B bp R0 2 first) (hU : UT B w)
    (h1 : Hid (Pl.scan R0 = (4, [61], n1))) (e1 : R0.drop n1 = R1) (h2 : Hid (Pl.scan R1 = (2, name, n2))) (e2 : R1.drop n2 = R2) (h3 : Hid (Pl.scan R2 = (4, [40], n3))) (e3 : R2.drop n3 = R3)
    (h4 : Hid (Pl.scan R3 = (K4, t4, n4))) (hres : Hid (isRes ⟨first.toArray⟩ = true)) (hfs : (⟨first.toArray⟩ : ByteArray).size ≤ 16777216) :
    Calls Tryd.prog 16 #[.pointer (some ⟨bp, 0, none⟩)] w fun e w' => e = .returned (.tuple #[.bool true, .bool true]) ∧ PS w' B bp (R3.drop n4) K4 t4 ∧ Below B w w' := by
  have hc0 := hP.c0
  have hc1 := hP.c1
  obtain ⟨F, hF⟩ : ∃ F : ByteArray, (⟨first.toArray⟩ : ByteArray) = F := ⟨_, rfl⟩
  rw [hF] at hc1 hres hfs
  clear hF
  go_enter Tryd.func16, Tryd.ntmps16
  go_wp2_with fail
  go_at_call 15
  refine (next15 hN hP hU 4 [61] n1 h1).mono ?_
  rintro e w1 ⟨rfl, hP1, hB1⟩
  rw [e1] at hP1
  clear hc0 hc1 hP h1
  go_wp2_with fail
  go_at_call 18
  refine (acc_yes hN hP1 (hU.mono hB1) 2 name n2 h2 ⟨#[61]⟩ rfl).mono ?_
  rintro e w2 ⟨rfl, hP2, hB2⟩
  rw [e2] at hP2
  clear hP1 h2
  go_wp2_with fail
  go_at_call 19
  refine (resname_walk F w2 hfs true hres).mono ?_
  rintro e w3 ⟨rfl, hB3⟩
  have hP3 := hP2.below hB3
  have hB123 : Below B w w3 := hB1.trans (hB2.trans (hB3.mono hP2.sz))
  have hc0 := hP3.c0
  clear hP2 hB3
  go_wp2_with fail
  go_at_call 15
  refine (next15 hN hP3 (hU.mono hB123) 4 [40] n3 h3).mono ?_
  rintro e w4 ⟨rfl, hP4, hB4⟩
  rw [e3] at hP4
  clear hc0 hP3 h3
  go_wp2_with fail
  go_at_call 18
  refine (acc_yes hN hP4 (hU.mono (hB123.trans hB4)) K4 t4 n4 h4 ⟨#[40]⟩ rfl).mono ?_
  rintro e w5 ⟨rfl, hP5, hB5⟩
  go_wp2
  go_ret2
  exact ⟨rfl, hP5, hB123.trans (hB4.trans hB5)⟩

set_option maxRecDepth 100000 in
set_option maxHeartbeats 2000000 in
/-- x = name..: no program's line -/
theorem prog_def (hN : NextW) {B bp : Nat} {R0 R1 first name : List UInt8} {n1 n2 : Nat} {w : World} (hP : PS w B bp R0 2 first) (hU : UT B w)
    (h1 : Hid (Pl.scan R0 = (4, [61], n1))) (e1 : R0.drop n1 = R1) (h2 : Hid (Pl.scan R1 = (2, name, n2))) (hres : Hid (isRes ⟨first.toArray⟩ = false)) (hfs : (⟨first.toArray⟩ : ByteArray).size ≤ 16777216) :
    Calls Tryd.prog 16 #[.pointer (some ⟨bp, 0, none⟩)] w fun e w' => e = .returned (.tuple #[.bool false, .bool true]) ∧ PS w' B bp (R1.drop n2) 2 name ∧ Below B w w' := by
  have hc0 := hP.c0
  have hc1 := hP.c1
  obtain ⟨F, hF⟩ : ∃ F : ByteArray, (⟨first.toArray⟩ : ByteArray) = F := ⟨_, rfl⟩
  rw [hF] at hc1 hres hfs
  clear hF
  go_enter Tryd.func16, Tryd.ntmps16
  go_wp2_with fail
  go_at_call 15
  refine (next15 hN hP hU 4 [61] n1 h1).mono ?_
  rintro e w1 ⟨rfl, hP1, hB1⟩
  rw [e1] at hP1
  clear hc0 hc1 hP h1
  go_wp2_with fail
  go_at_call 18
  refine (acc_yes hN hP1 (hU.mono hB1) 2 name n2 h2 ⟨#[61]⟩ rfl).mono ?_
  rintro e w2 ⟨rfl, hP2, hB2⟩
  clear hP1 h2
  go_wp2_with fail
  go_at_call 19
  refine (resname_walk F w2 hfs false hres).mono ?_
  rintro e w3 ⟨rfl, hB3⟩
  have hP3 := hP2.below hB3
  have hB123 : Below B w w3 := hB1.trans (hB2.trans (hB3.mono hP2.sz))
  clear hP2 hB3
  go_wp2
  go_ret2
  exact ⟨rfl, hP3, hB123⟩

set_option maxRecDepth 100000 in
set_option maxHeartbeats 2000000 in
/-- name() .. -/
theorem prog_call (hN : NextW) {B bp : Nat} {R0 R1 R2 first t3 : List UInt8} {K3 n1 n2 n3 : Nat} {w : World} (hP : PS w B bp R0 2 first) (hU : UT B w)
    (h1 : Hid (Pl.scan R0 = (4, [40], n1))) (e1 : R0.drop n1 = R1) (h2 : Hid (Pl.scan R1 = (4, [41], n2))) (e2 : R1.drop n2 = R2) (h3 : Hid (Pl.scan R2 = (K3, t3, n3))) (b : Bool) (hb : Hid ((K3 == 1 || K3 == 0) = b)) :
    Calls Tryd.prog 16 #[.pointer (some ⟨bp, 0, none⟩)] w fun e w' => e = .returned (.tuple #[.bool false, .bool (!b)]) ∧ PS w' B bp (R2.drop n3) K3 t3 ∧ Below B w w' := by
  have hc0 := hP.c0
  have hc1 := hP.c1
  obtain ⟨F, hF⟩ : ∃ F : ByteArray, (⟨first.toArray⟩ : ByteArray) = F := ⟨_, rfl⟩
  rw [hF] at hc1
  clear hF
  go_enter Tryd.func16, Tryd.ntmps16
  go_wp2_with fail
  go_at_call 15
  refine (next15 hN hP hU 4 [40] n1 h1).mono ?_
  rintro e w1 ⟨rfl, hP1, hB1⟩
  rw [e1] at hP1
  clear hc0 hc1 hP h1
  go_wp2_with fail
  go_at_call 18
  refine (acc_no hP1 ⟨#[40]⟩ ⟨#[61]⟩ rfl (by rw [Lib.toList_data, Lib.toList_data]; decide)).mono ?_
  rintro e w1' ⟨rfl, hw1⟩
  rw [hw1]
  clear hw1
  go_wp2_with fail
  go_at_call 18
  refine (acc_yes hN hP1 (hU.mono hB1) 4 [41] n2 h2 ⟨#[40]⟩ rfl).mono ?_
  rintro e w2 ⟨rfl, hP2, hB2⟩
  rw [e2] at hP2
  clear hP1 h2
  go_wp2_with fail
  go_at_call 18
  refine (acc_yes hN hP2 (hU.mono (hB1.trans hB2)) K3 t3 n3 h3 ⟨#[41]⟩ rfl).mono ?_
  rintro e w3 ⟨rfl, hP3, hB3⟩
  clear hP2 h3
  go_wp2_with fail
  go_at_call 20
  refine (eol_walk hP3 b hb).mono ?_
  rintro e w3' ⟨rfl, hw3⟩
  rw [hw3]
  clear hw3
  go_wp2
  go_ret2
  exact ⟨rfl, hP3, hB1.trans (hB2.trans hB3)⟩

set_option maxRecDepth 100000 in
set_option maxHeartbeats 2000000 in
theorem zz10 (bp : Nat) (w : World) (x y : Bool) (Q : World → Prop) (h : Calls Tryd.prog 16 #[.pointer (some ⟨bp, 0, none⟩)] w fun e w' => e = .returned (.tuple #[.bool x, .bool y]) ∧ Q w') :
    Calls Tryd.prog 10 #[.pointer (some ⟨bp, 0, none⟩)] w fun e w' => e = .returned (.tuple #[.bool x, .bool y]) ∧ Q w' := by
  go_enter Tryd.func10, Tryd.ntmps10
  go_wp2_with (go_at_call 16; refine h.mono ?_; rintro e w' ⟨rfl, hQ⟩)
  go_ret2
  exact ⟨rfl, hQ⟩
end Go.Proofs.Qxb6614551aDoor
