import Derived.Test.Qxb6608627aDoorAtofB
import Derived.Test.Qxb6608627aDoorShelfB
import Derived.Lib.SlBytesRow
namespace Go.Proofs.Qxb6608627aDoor
open Go.RowKit

set_option maxRecDepth 100000 in
set_option maxHeartbeats 1000000 in
theorem pre_walk (hiT loT fT : Nat → Nat) (s : ByteArray) (Z : Nat) (er : Bool) (h19 : AtDoes hiT loT fT s Z er) (B pb pbo lb lbo fb fbo : Nat) (w : World) (t : Tb B pb pbo lb lbo fb fbo fT hiT loT w) (hB : B ≤ w.heap.size) :
    Calls Tryd.prog 13 #[.string s, .int .i64 64] w fun e w' => e = .returned (.tuple #[.float .f64 Z, .int .i64 (s.size : Int), erv er]) ∧ Below w.heap.size w w' := by
  have h := h19 B pb pbo lb lbo fb fbo w t hB
  obtain ⟨ev, hev⟩ : ∃ ev, erv er = ev := ⟨_, rfl⟩
  rw [hev] at h ⊢
  clear h19 t hB hev
  go_enter Tryd.func13, Tryd.ntmps13
  go_wp2_with fail
  go_at_call 19
  refine h.mono ?_
  rintro e w' ⟨rfl, hb⟩
  go_wp2_with fail
  go_ret3
  exact ⟨rfl, hb⟩

set_option maxRecDepth 100000 in
set_option maxHeartbeats 1000000 in
theorem inner_walk (hiT loT fT : Nat → Nat) (s : ByteArray) (_hs : s.size ≤ 4194304) (Z : Nat) (er : Bool) (h19 : AtDoes hiT loT fT s Z er) (B pb pbo lb lbo fb fbo : Nat) (w : World) (t : Tb B pb pbo lb lbo fb fbo fT hiT loT w) (hB : B ≤ w.heap.size) :
    Calls Tryd.prog 11 #[.string s, .int .i64 64] w fun e w' => e = .returned (.tuple #[.float .f64 Z, erv er]) ∧ Below w.heap.size w w' := by
  have h := pre_walk hiT loT fT s Z er h19 B pb pbo lb lbo fb fbo w t hB
  obtain ⟨ev, hev⟩ : ∃ ev, erv er = ev := ⟨_, rfl⟩
  rw [hev] at h ⊢
  clear h19 t hB hev
  go_enter Tryd.func11, Tryd.ntmps11
  go_wp2_with fail
  go_at_call 13
  refine h.mono ?_
  rintro e w' ⟨rfl, hb⟩
  go_wp2_with fail
  go_ret2
  exact ⟨rfl, hb⟩

set_option maxRecDepth 100000 in
set_option maxHeartbeats 1000000 in
theorem pfl_walk (hiT loT fT : Nat → Nat) (s : ByteArray) (hs : s.size ≤ 4194304) (Z : Nat) (er : Bool) (h19 : AtDoes hiT loT fT s Z er) (B pb pbo lb lbo fb fbo : Nat) (w : World) (t : Tb B pb pbo lb lbo fb fbo fT hiT loT w) (hB : B ≤ w.heap.size)
    (te : TypeId) (pe : Value) (hE : w.cell? ⟨1, 0, none⟩ = some (.iface te pe)) :
    Calls Tryd.prog 10 #[.string s, .int .i64 64] w fun e w' => ∃ ev, e = .returned (.tuple #[.float .f64 Z, ev]) ∧ Below w.heap.size w w' := by
  have h := inner_walk hiT loT fT s hs Z er h19 B pb pbo lb lbo fb fbo w t hB
  have h12 : 1 < w.heap.size := by have := t.lt; omega
  have hte : ∀ W, Below w.heap.size w W → Calls Tryd.prog 12 #[.string ⟨#[80, 97, 114, 115, 101, 70, 108, 111, 97, 116]⟩, .string s, .int .i64 0, .int .i64 64, .iface 39 (.int .i64 1)] W fun e w' => ∃ N, e = .returned (.iface 40 (.pointer (some ⟨N, 0, none⟩))) ∧ Below w.heap.size w w' := by
    intro W hW
    refine (Any.strconv_toError_range Tryd.lays245 ⟨#[80, 97, 114, 115, 101, 70, 108, 111, 97, 116]⟩ s 0 64 (.iface te pe) W (by omega) ((below_cell hW h12).trans hE) (Or.inr ⟨te, pe, rfl⟩)).mono ?_
    rintro e w' ⟨N, h1, _, _, h4⟩
    exact ⟨N, h1, hW.trans (h4.mono hW.size)⟩
  clear h19 t hB hE
  cases er with
  | false =>
    have h' : Calls Tryd.prog 11 #[.string s, .int .i64 64] w fun e w' => e = .returned (.tuple #[.float .f64 Z, .nilIface]) ∧ Below w.heap.size w w' := h
    clear h
    go_enter Tryd.func10, Tryd.ntmps10
    go_wp2_with fail
    go_at_call 11
    refine h'.mono ?_
    rintro e w' ⟨rfl, hb⟩
    go_wp2_with fail
    go_ret2
    exact ⟨_, rfl, hb⟩
  | true =>
    have h' : Calls Tryd.prog 11 #[.string s, .int .i64 64] w fun e w' => e = .returned (.tuple #[.float .f64 Z, .iface 39 (.int .i64 1)]) ∧ Below w.heap.size w w' := h
    clear h
    go_enter Tryd.func10, Tryd.ntmps10
    go_wp2_with fail
    go_at_call 11
    refine h'.mono ?_
    rintro e w' ⟨rfl, hb⟩
    go_wp2_with fail
    go_at_call 12
    refine (hte w' hb).mono ?_
    rintro e w2 ⟨N, rfl, hb2⟩
    go_wp2_with fail
    go_ret2
    exact ⟨_, rfl, hb2⟩

/-- ZZnumericDate at a text that lies in a row -/
def NdDoes (hiT loT fT : Nat → Nat) (s : ByteArray) (Z : Nat) : Prop := ∀ (B pb pbo lb lbo fb fbo : Nat) (w : World), Tb B pb pbo lb lbo fb fbo fT hiT loT w → B ≤ w.heap.size → (∃ te pe, w.cell? ⟨1, 0, none⟩ = some (.iface te pe)) → ∀ g cap, Lib.Bytes w g 0 s →
  Calls Tryd.prog 6 #[.slice (some ⟨g, 0, none⟩) s.size cap] w fun e w' => e = .returned (.tuple #[.float .f64 Z, .bool true]) ∧ Below w.heap.size w w'

set_option maxRecDepth 100000 in
set_option maxHeartbeats 1000000 in
theorem nd_walk (hiT loT fT : Nat → Nat) (s : ByteArray) (a b : List UInt8) (hT : Txt s a b) (Z : Nat) (er : Bool) (h19 : AtDoes hiT loT fT s Z er) (B pb pbo lb lbo fb fbo : Nat) (w : World) (t : Tb B pb pbo lb lbo fb fbo fT hiT loT w) (hB : B ≤ w.heap.size)
    (te : TypeId) (pe : Value) (hE : w.cell? ⟨1, 0, none⟩ = some (.iface te pe)) (g cap : Nat) (hs : Lib.Bytes w g 0 s) :
    Calls Tryd.prog 9 #[.slice (some ⟨g, 0, none⟩) s.size cap] w fun e w' => e = .returned (.tuple #[.float .f64 Z, .bool true]) ∧ Below w.heap.size w w' := by
  have h := pfl_walk hiT loT fT s hT.sz Z er h19 B pb pbo lb lbo fb fbo w t hB te pe hE
  have hlen : s.size = a.length + (b.length + 1) := by rw [Lib.size_eq, hT.eq, List.length_append, List.length_cons]
  obtain ⟨x, a', ha'⟩ : ∃ x a', a = x :: a' := by
    cases a with
    | nil => exact absurd rfl hT.ne
    | cons x a' => exact ⟨x, a', rfl⟩
  have hx : dig x := hT.da x (by rw [ha']; simp)
  have h0 : 0 < s.size := by omega
  have hsz := hT.sz
  have hc : w.cell? ⟨g, 0, none⟩ = some (.int .u8 (x.toNat : Int)) := by
    rw [show (0 : Nat) = 0 + 0 from rfl, hs 0 h0]
    have e1 := Go.Proofs.byte_at s 0 h0
    rw [hT.eq, ha'] at e1
    have e2 : x = s[0] := Option.some.inj e1
    rw [e2]
  have hcv : (convert 31 9 (.slice (some ⟨g, 0, none⟩) s.size cap)).run Tryd.prog w = .ok (.string s) w := Lib.run_convert_whole w 31 5 9 Tryd.underlying31 Tryd.underlying5 Tryd.underlying9 g 0 s hs cap
  obtain ⟨c, hcx⟩ : ∃ c, x.toNat = c := ⟨_, rfl⟩
  obtain ⟨n, hn⟩ : ∃ n, s.size = n := ⟨_, rfl⟩
  rw [hcx] at hc
  unfold dig at hx
  rw [hcx] at hx
  rw [hn] at h0 hcv hsz ⊢
  have q0 : ((n : Int) == 0) = false := by rw [beq_eq_false_iff_ne]; omega
  have q1 : ((c : Int) == 45) = false := by rw [beq_eq_false_iff_ne]; omega
  have q2 : decide ((c : Int) < 48) = false := decide_eq_false (by omega)
  have q3 : decide ((57 : Int) < (c : Int)) = false := decide_eq_false (by omega)
  have hn0 : (0 : Int) < (n : Int) := by omega
  clear h19 t hB hE hT hs hcx hn hlen ha'
  go_enter Tryd.func9, Tryd.ntmps9
  go_wp2_with fail
  go_at_call 10
  refine h.mono ?_
  rintro e w' ⟨ev, rfl, hb⟩
  go_wp2_with fail
  go_ret2
  exact ⟨rfl, hb⟩
set_option maxRecDepth 100000 in
set_option maxHeartbeats 1000000 in
theorem nd_does (hiT loT fT : Nat → Nat) (s : ByteArray) (a b : List UInt8) (hT : Txt s a b) (Z : Nat) (er : Bool) (h19 : AtDoes hiT loT fT s Z er) : NdDoes hiT loT fT s Z := by
  intro B pb pbo lb lbo fb fbo w t hB ⟨te, pe, hE⟩ g cap hs
  have h := nd_walk hiT loT fT s a b hT Z er h19 B pb pbo lb lbo fb fbo w t hB te pe hE g cap hs
  clear hT h19 t hB hE hs
  go_enter Tryd.func6, Tryd.ntmps6
  go_wp2_with fail
  go_at_call 9
  refine h.mono ?_
  rintro e w' ⟨rfl, hb⟩
  go_wp2_with fail
  go_ret2
  exact ⟨rfl, hb⟩
end Go.Proofs.Qxb6608627aDoor
