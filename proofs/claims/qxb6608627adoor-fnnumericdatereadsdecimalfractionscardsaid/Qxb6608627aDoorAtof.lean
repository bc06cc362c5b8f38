import Derived.Test.Qxb6608627aDoorExact
import Derived.Test.Qxb6608627aDoorPfloat
import Derived.Test.Qxb6608627aDoorSet
import Derived.Test.Qxb6608627aDoorFbAll
import Derived.Test.Qxb6608627aDoorOne
namespace Go.Proofs.Qxb6608627aDoor
open Go.RowKit

theorem txt_first {s : ByteArray} {a b : List UInt8} (hT : Txt s a b) : ∃ c0, dig c0 ∧ ∀ W, (Instr.index 9 (.string s) (.int .i64 0)).run Tryd.prog W = .ok (.int .u8 (c0.toNat : Int)) W := by
  have hlen : s.size = a.length + (b.length + 1) := by rw [Lib.size_eq, hT.eq, List.length_append, List.length_cons]
  obtain ⟨c0, hcd, hix⟩ := index_run s 0 (by omega)
  refine ⟨c0, ?_, hix⟩
  cases a with
  | nil => exact absurd rfl hT.ne
  | cons x a =>
    rw [List.drop_zero, hT.eq] at hcd
    injection hcd with e _
    rw [← e]
    exact hT.da x (by simp)
/-- what atof64 answers, whatever the world -/
def AtDoes (hiT loT fT : Nat → Nat) (s : ByteArray) (Z : Nat) (er : Bool) : Prop := ∀ (B pb pbo lb lbo fb fbo : Nat) (w : World), Tb B pb pbo lb lbo fb fbo fT hiT loT w → B ≤ w.heap.size →
  Calls Tryd.prog 19 #[.string s] w fun e w' => e = .returned (.tuple #[.float .f64 Z, .int .i64 (s.size : Int), erv er]) ∧ Below w.heap.size w w'

set_option maxRecDepth 100000 in
set_option maxHeartbeats 2000000 in
theorem at_zero (hiT loT fT : Nat → Nat) (s : ByteArray) (a b : List UInt8) (hT : Txt s a b) (σ : RF) (hσ : rf0.run s.data.toList = σ) (hm : σ.mant = 0) : AtDoes hiT loT fT s 0 false := by
  intro B pb pbo lb lbo fb fbo w t hB
  obtain ⟨c0, hc0, hix⟩ := txt_first hT
  have hlen : s.size = a.length + (b.length + 1) := by rw [Lib.size_eq, hT.eq, List.length_append, List.length_cons]
  have hsp := special_walk s (by omega) hT.sz c0 hc0 hix w
  have hrd := read_walk s a b hT w σ hσ 0 (by show _ = _; rw [if_pos hm])
  rw [hm] at hrd
  have opt := t.opt
  have hf : ∀ W, (callFunc 33 #[.int .u64 0]).run Tryd.prog W = .ok (.value (.float .f64 0)) W := frombits_run 0
  have b5 := bx5
  obtain ⟨tr, htr⟩ : ∃ tr, σ.tr = tr := ⟨_, rfl⟩
  rw [htr] at hrd
  have hb2 := b2_walk false w
  clear t hB hT hσ hm htr hlen hix
  go_enter Tryd.func19, Tryd.ntmps19
  go_wp2_with (first | (go_at_call 23; refine hsp.mono ?_; rintro e w' ⟨rfl, hw⟩; rw [hw]) | (go_at_call 24; refine hrd.mono ?_; rintro e w' ⟨rfl, hw⟩; rw [hw]) | (go_at_call 32; refine hb2.mono ?_; rintro e w' ⟨rfl, hw⟩; rw [hw]))
  go_ret3
  exact ⟨rfl, Below.refl _ _⟩

set_option maxRecDepth 100000 in
set_option maxHeartbeats 2000000 in
theorem at_over (hiT loT fT : Nat → Nat) (s : ByteArray) (a b : List UInt8) (hT : Txt s a b) (σ : RF) (hσ : rf0.run s.data.toList = σ) (hm : σ.mant ≠ 0) (hp : 310 < σ.dp - (σ.ndM : Int)) : AtDoes hiT loT fT s 9218868437227405312 true := by
  intro B pb pbo lb lbo fb fbo w t hB
  obtain ⟨c0, hc0, hix⟩ := txt_first hT
  have hlen : s.size = a.length + (b.length + 1) := by rw [Lib.size_eq, hT.eq, List.length_append, List.length_cons]
  have hsp := special_walk s (by omega) hT.sz c0 hc0 hix w
  have hrd := read_walk s a b hT w σ hσ (σ.dp - (σ.ndM : Int)) (by show _ = _; rw [if_neg hm])
  have opt := t.opt
  have hf : ∀ W, (callFunc 33 #[.int .u64 9218868437227405312]).run Tryd.prog W = .ok (.value (.float .f64 9218868437227405312)) W := frombits_run 9218868437227405312
  have b5 := bx5
  have b3 := bx3
  obtain ⟨tr, htr⟩ : ∃ tr, σ.tr = tr := ⟨_, rfl⟩
  obtain ⟨m, hme⟩ : ∃ m, σ.mant = m := ⟨_, rfl⟩
  obtain ⟨p, hpe⟩ : ∃ p, σ.dp - (σ.ndM : Int) = p := ⟨_, rfl⟩
  rw [htr, hme, hpe] at hrd
  rw [hme] at hm
  rw [hpe] at hp
  have hmz : ((m : Int) == 0) = false := by rw [beq_eq_false_iff_ne]; omega
  have hb2 := b2_walk false w
  clear t hB hT hσ htr hlen hix hme hpe
  go_enter Tryd.func19, Tryd.ntmps19
  go_wp2_with (first | (go_at_call 23; refine hsp.mono ?_; rintro e w' ⟨rfl, hw⟩; rw [hw]) | (go_at_call 24; refine hrd.mono ?_; rintro e w' ⟨rfl, hw⟩; rw [hw]) | (go_at_call 32; refine hb2.mono ?_; rintro e w' ⟨rfl, hw⟩; rw [hw]))
  go_ret3
  exact ⟨rfl, Below.refl _ _⟩

set_option maxRecDepth 100000 in
set_option maxHeartbeats 2000000 in
theorem at_under (hiT loT fT : Nat → Nat) (s : ByteArray) (a b : List UInt8) (hT : Txt s a b) (σ : RF) (hσ : rf0.run s.data.toList = σ) (hm : σ.mant ≠ 0) (hp : σ.dp - (σ.ndM : Int) < -345) : AtDoes hiT loT fT s 0 false := by
  intro B pb pbo lb lbo fb fbo w t hB
  obtain ⟨c0, hc0, hix⟩ := txt_first hT
  have hlen : s.size = a.length + (b.length + 1) := by rw [Lib.size_eq, hT.eq, List.length_append, List.length_cons]
  have hsp := special_walk s (by omega) hT.sz c0 hc0 hix w
  have hrd := read_walk s a b hT w σ hσ (σ.dp - (σ.ndM : Int)) (by show _ = _; rw [if_neg hm])
  have opt := t.opt
  have hf : ∀ W, (callFunc 33 #[.int .u64 0]).run Tryd.prog W = .ok (.value (.float .f64 0)) W := frombits_run 0
  have b5 := bx5
  have b3 := bx3
  obtain ⟨tr, htr⟩ : ∃ tr, σ.tr = tr := ⟨_, rfl⟩
  obtain ⟨m, hme⟩ : ∃ m, σ.mant = m := ⟨_, rfl⟩
  obtain ⟨p, hpe⟩ : ∃ p, σ.dp - (σ.ndM : Int) = p := ⟨_, rfl⟩
  rw [htr, hme, hpe] at hrd
  rw [hme] at hm
  rw [hpe] at hp
  have hmz : ((m : Int) == 0) = false := by rw [beq_eq_false_iff_ne]; omega
  have hpo : decide ((310 : Int) < p) = false := decide_eq_false (by omega)
  have hb2 := b2_walk false w
  clear t hB hT hσ htr hlen hix hme hpe
  go_enter Tryd.func19, Tryd.ntmps19
  go_wp2_with (first | (go_at_call 23; refine hsp.mono ?_; rintro e w' ⟨rfl, hw⟩; rw [hw]) | (go_at_call 24; refine hrd.mono ?_; rintro e w' ⟨rfl, hw⟩; rw [hw]) | (go_at_call 32; refine hb2.mono ?_; rintro e w' ⟨rfl, hw⟩; rw [hw]))
  go_ret3
  exact ⟨rfl, Below.refl _ _⟩

set_option maxRecDepth 100000 in
set_option maxHeartbeats 2000000 in
theorem at_exact (hiT loT fT : Nat → Nat) (s : ByteArray) (a b : List UInt8) (hT : Txt s a b) (σ : RF) (hσ : rf0.run s.data.toList = σ) (hm : σ.mant ≠ 0) (hp : -345 ≤ σ.dp - (σ.ndM : Int) ∧ σ.dp - (σ.ndM : Int) ≤ 310) (htr : σ.tr = false) (Z : Nat)
    (h34 : ∀ (B pb pbo lb lbo fb fbo : Nat) (w : World), Tb B pb pbo lb lbo fb fbo fT hiT loT w → Calls Tryd.prog 34 #[.int .u64 (σ.mant : Int), .int .i64 (σ.dp - (σ.ndM : Int)), .bool false] w fun r w' => r = .returned (.tuple #[.float .f64 Z, .bool true]) ∧ w' = w) : AtDoes hiT loT fT s Z false := by
  intro B pb pbo lb lbo fb fbo w t hB
  obtain ⟨c0, hc0, hix⟩ := txt_first hT
  have hlen : s.size = a.length + (b.length + 1) := by rw [Lib.size_eq, hT.eq, List.length_append, List.length_cons]
  have hsp := special_walk s (by omega) hT.sz c0 hc0 hix w
  have hrd := read_walk s a b hT w σ hσ (σ.dp - (σ.ndM : Int)) (by show _ = _; rw [if_neg hm])
  have opt := t.opt
  have h34' := h34 B pb pbo lb lbo fb fbo w t
  obtain ⟨m, hme⟩ : ∃ m, σ.mant = m := ⟨_, rfl⟩
  obtain ⟨p, hpe⟩ : ∃ p, σ.dp - (σ.ndM : Int) = p := ⟨_, rfl⟩
  rw [htr, hme, hpe] at hrd
  rw [hme, hpe] at h34'
  rw [hme] at hm
  rw [hpe] at hp
  have hmz : ((m : Int) == 0) = false := by rw [beq_eq_false_iff_ne]; omega
  have hpo : decide ((310 : Int) < p) = false := decide_eq_false (by omega)
  have hpu : decide (p < -345) = false := decide_eq_false (by omega)
  have hb2 := b2_walk false w
  clear t hB hT hσ htr hlen hix hme hpe h34
  go_enter Tryd.func19, Tryd.ntmps19
  go_wp2_with (first | (go_at_call 23; refine hsp.mono ?_; rintro e w' ⟨rfl, hw⟩; rw [hw]) | (go_at_call 24; refine hrd.mono ?_; rintro e w' ⟨rfl, hw⟩; rw [hw]) | (go_at_call 32; refine hb2.mono ?_; rintro e w' ⟨rfl, hw⟩; rw [hw]) | (go_at_call 34; refine h34'.mono ?_; rintro e w' ⟨rfl, hw⟩; rw [hw]))
  go_ret3
  exact ⟨rfl, Below.refl _ _⟩
set_option maxRecDepth 100000 in
set_option maxHeartbeats 2000000 in
theorem at_fast (hiT loT fT : Nat → Nat) (s : ByteArray) (a b : List UInt8) (hT : Txt s a b) (σ : RF) (hσ : rf0.run s.data.toList = σ) (hm : σ.mant ≠ 0) (hp : -345 ≤ σ.dp - (σ.ndM : Int) ∧ σ.dp - (σ.ndM : Int) ≤ 310) (htr : σ.tr = false) (Z0 Z : Nat) (er : Bool)
    (h34 : ∀ (B pb pbo lb lbo fb fbo : Nat) (w : World), Tb B pb pbo lb lbo fb fbo fT hiT loT w → Calls Tryd.prog 34 #[.int .u64 (σ.mant : Int), .int .i64 (σ.dp - (σ.ndM : Int)), .bool false] w fun r w' => r = .returned (.tuple #[.float .f64 Z0, .bool false]) ∧ w' = w)
    (h35 : PfDoes hiT loT σ.mant (σ.dp - (σ.ndM : Int)) Z er) : AtDoes hiT loT fT s Z er := by
  intro B pb pbo lb lbo fb fbo w t hB
  obtain ⟨c0, hc0, hix⟩ := txt_first hT
  have hlen : s.size = a.length + (b.length + 1) := by rw [Lib.size_eq, hT.eq, List.length_append, List.length_cons]
  have hsp := special_walk s (by omega) hT.sz c0 hc0 hix w
  have hrd := read_walk s a b hT w σ hσ (σ.dp - (σ.ndM : Int)) (by show _ = _; rw [if_neg hm])
  have opt := t.opt
  have h34' := h34 B pb pbo lb lbo fb fbo w t
  have h35' := h35 B pb pbo lb lbo fb fbo fT w t hB
  obtain ⟨m, hme⟩ : ∃ m, σ.mant = m := ⟨_, rfl⟩
  obtain ⟨p, hpe⟩ : ∃ p, σ.dp - (σ.ndM : Int) = p := ⟨_, rfl⟩
  obtain ⟨ev, hev⟩ : ∃ ev, erv er = ev := ⟨_, rfl⟩
  have HEV : Hid (erv er = ev) := hev
  rw [htr, hme, hpe] at hrd
  rw [hme, hpe] at h34'
  rw [hme, hpe, hev] at h35'
  rw [hme] at hm
  rw [hpe] at hp
  have hmz : ((m : Int) == 0) = false := by rw [beq_eq_false_iff_ne]; omega
  have hpo : decide ((310 : Int) < p) = false := decide_eq_false (by omega)
  have hpu : decide (p < -345) = false := decide_eq_false (by omega)
  have hb2 := b2_walk false w
  clear t hB hT hσ htr hlen hix hme hpe h34 h35 hev
  go_enter Tryd.func19, Tryd.ntmps19
  go_wp2_with (first | (go_at_call 23; refine hsp.mono ?_; rintro e w' ⟨rfl, hw⟩; rw [hw]) | (go_at_call 24; refine hrd.mono ?_; rintro e w' ⟨rfl, hw⟩; rw [hw]) | (go_at_call 32; refine hb2.mono ?_; rintro e w' ⟨rfl, hw⟩; rw [hw]) | (go_at_call 34; refine h34'.mono ?_; rintro e w' ⟨rfl, hw⟩; rw [hw]))
  go_at_call 35
  refine h35'.mono ?_
  rintro e w' ⟨rfl, hb'⟩
  go_wp2_with fail
  go_ret3
  exact ⟨by rw [HEV.out]; rfl, hb'⟩
end Go.Proofs.Qxb6608627aDoor
