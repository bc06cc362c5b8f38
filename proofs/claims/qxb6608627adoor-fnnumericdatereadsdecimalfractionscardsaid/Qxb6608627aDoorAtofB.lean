import Derived.Test.Qxb6608627aDoorAtof
namespace Go.Proofs.Qxb6608627aDoor
open Go.RowKit

set_option maxRecDepth 100000 in
set_option maxHeartbeats 2000000 in
theorem at_same (hiT loT fT : Nat → Nat) (s : ByteArray) (a b : List UInt8) (hT : Txt s a b) (σ : RF) (hσ : rf0.run s.data.toList = σ) (hm : σ.mant ≠ 0) (hm2 : σ.mant < 10000000000000000000) (hp : -345 ≤ σ.dp - (σ.ndM : Int) ∧ σ.dp - (σ.ndM : Int) ≤ 310) (htr : σ.tr = true) (Z Z1 : Nat) (er er1 : Bool)
    (h35 : PfDoes hiT loT σ.mant (σ.dp - (σ.ndM : Int)) Z er) (h35b : PfDoes hiT loT (σ.mant + 1) (σ.dp - (σ.ndM : Int)) Z1 er1) (hq : (FloatKind.f64.format.order Z Z1 == some Ordering.eq) = true) : AtDoes hiT loT fT s Z er := by
  intro B pb pbo lb lbo fb fbo w t hB
  obtain ⟨c0, hc0, hix⟩ := txt_first hT
  have hlen : s.size = a.length + (b.length + 1) := by rw [Lib.size_eq, hT.eq, List.length_append, List.length_cons]
  have hsp := special_walk s (by omega) hT.sz c0 hc0 hix w
  have hrd := read_walk s a b hT w σ hσ (σ.dp - (σ.ndM : Int)) (by show _ = _; rw [if_neg hm])
  have opt := t.opt
  have h35' := h35 B pb pbo lb lbo fb fbo fT w t hB
  have h35b' : ∀ W, Below w.heap.size w W → Calls Tryd.prog 35 #[.int .u64 ((σ.mant + 1 : Nat) : Int), .int .i64 (σ.dp - (σ.ndM : Int)), .int .u64 0] W fun e w' => e = .returned (.tuple #[.float .f64 Z1, erv er1]) ∧ Below W.heap.size W w' := fun W hW => h35b B pb pbo lb lbo fb fbo fT W (t.mono (hW.mono hB)) (Nat.le_trans hB hW.size)
  obtain ⟨m, hme⟩ : ∃ m, σ.mant = m := ⟨_, rfl⟩
  obtain ⟨p, hpe⟩ : ∃ p, σ.dp - (σ.ndM : Int) = p := ⟨_, rfl⟩
  obtain ⟨ev, hev⟩ : ∃ ev, erv er = ev := ⟨_, rfl⟩
  obtain ⟨ev1, hev1⟩ : ∃ ev, erv er1 = ev := ⟨_, rfl⟩
  have HEV : Hid (erv er = ev) := hev
  rw [htr, hme, hpe] at hrd
  rw [hme, hpe, hev] at h35'
  simp only [hme, hpe, hev1, Int.natCast_add, Int.cast_ofNat_Int] at h35b'
  rw [hme] at hm hm2
  rw [hpe] at hp
  have hmz : ((m : Int) == 0) = false := by rw [beq_eq_false_iff_ne]; omega
  have hpo : decide ((310 : Int) < p) = false := decide_eq_false (by omega)
  have hpu : decide (p < -345) = false := decide_eq_false (by omega)
  have hb2 := b2_walk false w
  have hwr : IntKind.u64.wrap ((m : Int) + 1) = (m : Int) + 1 := u64_id (by omega) (by omega)
  clear t hB hT hσ htr hlen hix hme hpe h35 h35b hev hev1
  go_enter Tryd.func19, Tryd.ntmps19
  go_wp2_with (first | (go_at_call 23; refine hsp.mono ?_; rintro e w' ⟨rfl, hw⟩; rw [hw]) | (go_at_call 24; refine hrd.mono ?_; rintro e w' ⟨rfl, hw⟩; rw [hw]) | (go_at_call 32; refine hb2.mono ?_; rintro e w' ⟨rfl, hw⟩; rw [hw]))
  go_at_call 35
  refine h35'.mono ?_
  rintro e w1 ⟨rfl, hb1⟩
  go_wp2_with fail
  go_at_call 35
  refine (h35b' w1 hb1).mono ?_
  rintro e w2 ⟨rfl, hb2⟩
  go_wp2_with fail
  go_ret3
  exact ⟨by rw [HEV.out]; rfl, hb1.trans (hb2.mono hb1.size)⟩

theorem zero70 : Tryd.zeroCells70 = Array.mk (List.replicate 800 (.int .u8 0) ++ [.int .i64 0, .int .i64 0, .bool false, .bool false]) := by kernel_rfl
theorem at_cells (w : World) (cs : Array Value) (n : Nat) (l : List Value) (hn : n = 800) (hcs : cs = Array.mk (List.replicate n (.int .u8 0) ++ l)) (hl : l = [.int .i64 0, .int .i64 0, .bool false, .bool false]) : At (w.alloc (Obj.cells cs 70)) w.heap.size d00 := by
  have e0 : (w.alloc (Obj.cells cs 70)).heap[w.heap.size]? = some (Obj.cells cs 70) := by show (w.heap.push _)[w.heap.size]? = _; exact Array.getElem?_push_size
  have e1 : ∀ i : Nat, cs[i]? = (List.replicate n (Value.int .u8 0) ++ l)[i]? := by intro i; rw [hcs]; simp
  have e2 : ∀ j : Nat, cs[n + j]? = l[j]? := by intro j; rw [e1, List.getElem?_append_right (by simp)]; simp
  refine ⟨cs, e0, by rw [hcs]; show (List.replicate n (Value.int .u8 0) ++ l).length = 804; rw [List.length_append, List.length_replicate, hl, hn]; rfl, fun i hi => ?_, ?_, ?_, ?_, ?_⟩
  · rw [e1, List.getElem?_append_left (by rw [List.length_replicate]; omega), List.getElem?_replicate, if_pos (by omega)]; rfl
  · have := e2 0; rw [hn, hl] at this; exact this
  · have := e2 1; rw [hn, hl] at this; exact this
  · have := e2 2; rw [hn, hl] at this; exact this
  · have := e2 3; rw [hn, hl] at this; exact this
theorem at_new (w : World) : At (w.alloc (Obj.cells Tryd.zeroCells70 70)) w.heap.size d00 := at_cells w _ 800 _ rfl zero70 rfl

set_option maxRecDepth 100000 in
set_option maxHeartbeats 2000000 in
theorem at_slow (hiT loT fT : Nat → Nat) (s : ByteArray) (a b : List UInt8) (hT : Txt s a b) (σ : RF) (hσ : rf0.run s.data.toList = σ) (hm : σ.mant ≠ 0) (hm2 : σ.mant < 10000000000000000000) (hp : -345 ≤ σ.dp - (σ.ndM : Int) ∧ σ.dp - (σ.ndM : Int) ≤ 310) (htr : σ.tr = true) (Z Z1 : Nat) (er er1 : Bool)
    (h35 : PfDoes hiT loT σ.mant (σ.dp - (σ.ndM : Int)) Z er) (h35b : PfDoes hiT loT (σ.mant + 1) (σ.dp - (σ.ndM : Int)) Z1 er1) (hq : (FloatKind.f64.format.order Z Z1 == some Ordering.eq) = false)
    (D : Dec) (hD : drun d00 s.data.toList = D) (Zb : Nat) (ov : Bool) (hfb : FbDoes D Zb ov) : AtDoes hiT loT fT s Zb ov := by
  intro B pb pbo lb lbo fb fbo w t hB
  obtain ⟨c0, hc0, hix⟩ := txt_first hT
  have hlen : s.size = a.length + (b.length + 1) := by rw [Lib.size_eq, hT.eq, List.length_append, List.length_cons]
  have hsp := special_walk s (by omega) hT.sz c0 hc0 hix w
  have hrd := read_walk s a b hT w σ hσ (σ.dp - (σ.ndM : Int)) (by show _ = _; rw [if_neg hm])
  have opt := t.opt
  have h35' := h35 B pb pbo lb lbo fb fbo fT w t hB
  have h35b' : ∀ W, Below w.heap.size w W → Calls Tryd.prog 35 #[.int .u64 ((σ.mant + 1 : Nat) : Int), .int .i64 (σ.dp - (σ.ndM : Int)), .int .u64 0] W fun e w' => e = .returned (.tuple #[.float .f64 Z1, erv er1]) ∧ Below W.heap.size W w' := fun W hW => h35b B pb pbo lb lbo fb fbo fT W (t.mono (hW.mono hB)) (Nat.le_trans hB hW.size)
  have h30 : ∀ W, Below w.heap.size w W → Calls Tryd.prog 30 #[.pointer (some ⟨W.heap.size, 0, none⟩), .string s] (W.alloc (Obj.cells Tryd.zeroCells70 70)) fun e w' => e = .returned (.bool true) ∧ (At w' W.heap.size D ∧ Below w.heap.size w w' ∧ w.heap.size ≤ W.heap.size) := by
    intro W hW
    refine (set_walk s a b hT W.heap.size _ (at_new W) D hD).mono ?_
    rintro e w' ⟨h1, h2, h3⟩
    exact ⟨h1, h2, hW.trans ((below_alloc_kp _ h3).mono hW.size), hW.size⟩
  have h31 : ∀ W bd, At W bd D ∧ Below w.heap.size w W ∧ w.heap.size ≤ bd → Calls Tryd.prog 31 #[.pointer (some ⟨bd, 0, none⟩), .pointer (some ⟨4, 0, none⟩)] W fun e w' => e = .returned (.tuple #[.int .u64 (Zb : Int), .bool ov]) ∧ Below w.heap.size w w' := by
    intro W bd ⟨h1, h2, h3⟩
    refine (hfb B pb pbo lb lbo fb fbo fT hiT loT bd W h1 (t.mono (h2.mono hB)) (Nat.le_trans hB h3)).mono ?_
    rintro e w' ⟨h4, h5⟩
    exact ⟨h4, h2.trans (h5.below h3 h2.size)⟩
  obtain ⟨m, hme⟩ : ∃ m, σ.mant = m := ⟨_, rfl⟩
  obtain ⟨p, hpe⟩ : ∃ p, σ.dp - (σ.ndM : Int) = p := ⟨_, rfl⟩
  obtain ⟨ev, hev⟩ : ∃ ev, erv er = ev := ⟨_, rfl⟩
  obtain ⟨ev1, hev1⟩ : ∃ ev, erv er1 = ev := ⟨_, rfl⟩
  rw [htr, hme, hpe] at hrd
  rw [hme, hpe, hev] at h35'
  simp only [hme, hpe, hev1, Int.natCast_add, Int.cast_ofNat_Int] at h35b'
  rw [hme] at hm hm2
  rw [hpe] at hp
  have hmz : ((m : Int) == 0) = false := by rw [beq_eq_false_iff_ne]; omega
  have hpo : decide ((310 : Int) < p) = false := decide_eq_false (by omega)
  have hpu : decide (p < -345) = false := decide_eq_false (by omega)
  have hb2 := b2_walk false w
  have hwr : IntKind.u64.wrap ((m : Int) + 1) = (m : Int) + 1 := u64_id (by omega) (by omega)
  have hf : ∀ W, (callFunc 33 #[.int .u64 (Zb : Int)]).run Tryd.prog W = .ok (.value (.float .f64 Zb)) W := frombits_run Zb
  clear t hB hT hσ htr hlen hix hme hpe h35 h35b hev hev1 hfb hD
  go_enter Tryd.func19, Tryd.ntmps19
  go_wp2_with (first | (go_at_call 23; refine hsp.mono ?_; rintro e w' ⟨rfl, hw⟩; rw [hw]) | (go_at_call 24; refine hrd.mono ?_; rintro e w' ⟨rfl, hw⟩; rw [hw]) | (go_at_call 32; refine hb2.mono ?_; rintro e w' ⟨rfl, hw⟩; rw [hw]))
  go_at_call 35
  refine h35'.mono ?_
  rintro e w1 ⟨rfl, hb1⟩
  go_wp2_with fail
  go_at_call 35
  refine (h35b' w1 hb1).mono ?_
  rintro e w2 ⟨rfl, hb2⟩
  have hb12 : Below w.heap.size w w2 := hb1.trans (hb2.mono hb1.size)
  clear hb1 hb2 h35' h35b' hsp hrd
  go_wp2_with fail
  go_at_call 30
  refine (h30 w2 hb12).mono ?_
  rintro e w3 ⟨rfl, h3⟩
  go_wp2_with fail
  go_at_call 31
  refine (h31 w3 _ h3).mono ?_
  rintro e w4 ⟨rfl, h4⟩
  cases ov with
  | false =>
    go_wp2_with fail
    go_ret3
    exact ⟨rfl, h4⟩
  | true =>
    go_wp2_with fail
    go_ret3
    exact ⟨rfl, h4⟩

theorem txt_all {s : ByteArray} {a b : List UInt8} (hT : Txt s a b) : ∀ c ∈ s.data.toList, dig c ∨ c.toNat = 46 := by
  intro c hc
  rw [hT.eq, List.mem_append, List.mem_cons] at hc
  rcases hc with h | h | h
  · exact Or.inl (hT.da c h)
  · right; rw [h]; decide
  · exact Or.inl (hT.db c h)

/-- atof64 at a text a.b: one answer, whatever the world; it hangs on readFloat's and the decimal's state alone -/
theorem at_ex (hiT loT fT : Nat → Nat) (hh : ∀ i, hiT i < 18446744073709551616) (hl : ∀ i, loT i < 18446744073709551616) (hfT : ∀ i, i < 23 → fT i = f10 i) (σ : RF) (D : Dec) (k : Nat) (hok : RFok σ k) (hN : 1 ≤ σ.nd → Norm D.d D.nd) :
    ∃ Z er, Z ≤ ovB ∧ ∀ (s : ByteArray) (a b : List UInt8), Txt s a b → rf0.run s.data.toList = σ → drun d00 s.data.toList = D → AtDoes hiT loT fT s Z er := by
  by_cases hm : σ.mant = 0
  · exact ⟨0, false, Nat.zero_le _, fun s a b hT h1 _ => at_zero hiT loT fT s a b hT σ h1 hm⟩
  by_cases hp1 : 310 < σ.dp - (σ.ndM : Int)
  · exact ⟨_, true, Nat.le_refl _, fun s a b hT h1 _ => at_over hiT loT fT s a b hT σ h1 hm hp1⟩
  by_cases hp2 : σ.dp - (σ.ndM : Int) < -345
  · exact ⟨0, false, Nat.zero_le _, fun s a b hT h1 _ => at_under hiT loT fT s a b hT σ h1 hm hp2⟩
  have hp : -345 ≤ σ.dp - (σ.ndM : Int) ∧ σ.dp - (σ.ndM : Int) ≤ 310 := by omega
  have hm2 : σ.mant < 10000000000000000000 := Nat.lt_of_lt_of_le hok.lt (Nat.le_trans (Nat.pow_le_pow_right (by decide) hok.m19) (by decide))
  obtain ⟨Z, er, hZ, h35⟩ := pf_ex hiT loT hh hl σ.mant (by omega) (by omega) _ hp
  cases htr : σ.tr with
  | false =>
    by_cases hb : 4503599627370496 ≤ σ.mant
    · exact ⟨Z, er, hZ, fun s a b hT h1 _ => at_fast hiT loT fT s a b hT σ h1 hm hp htr 0 Z er (fun B pb pbo lb lbo fb fbo w t => ex_big σ.mant _ hb (by omega) w t.f0) h35⟩
    · by_cases hp0 : σ.dp - (σ.ndM : Int) = 0
      · refine ⟨floatOfInt .f64 (σ.mant : Int), false, foi_le _, fun s a b hT h1 _ => at_exact hiT loT fT s a b hT σ h1 hm hp htr _ (fun B pb pbo lb lbo fb fbo w t => ?_)⟩
        rw [hp0]
        exact ex_zero σ.mant (by omega) w t.f0
      · by_cases hpp : 0 < σ.dp - (σ.ndM : Int)
        · exfalso
          have h1 := hok.dphi
          have h2 := hok.min
          have h3 : σ.ndM = 19 := by omega
          have h4 := hok.ge (by omega)
          rw [h3] at h4
          have : (10 : Nat) ^ (19 - 1) = 1000000000000000000 := by decide
          omega
        · by_cases hf : σ.dp - (σ.ndM : Int) < -22
          · exact ⟨Z, er, hZ, fun s a b hT h1 _ => at_fast hiT loT fT s a b hT σ h1 hm hp htr _ Z er (fun B pb pbo lb lbo fb fbo w t => ex_far σ.mant _ (by omega) hf w t.f0) h35⟩
          · obtain ⟨q, hq⟩ : ∃ q : Nat, σ.dp - (σ.ndM : Int) = -(q : Int) := ⟨(-(σ.dp - (σ.ndM : Int))).toNat, by omega⟩
            obtain ⟨n, j, hn, hn0⟩ := f10_num (k := q) (by omega)
            obtain ⟨R, hR, hR2⟩ := quo_ex (foi_le σ.mant) hn hn0
            refine ⟨R, false, hR, fun s a b hT h1 _ => at_exact hiT loT fT s a b hT σ h1 hm hp htr _ (fun B pb pbo lb lbo fb fbo w t => ?_)⟩
            rw [hq]
            exact ex_quo σ.mant q (by omega) (by omega) fb fbo (f10 q) R hR2 w t.f0 t.fp (by rw [t.fpc q (by omega), hfT q (by omega)])
  | true =>
    obtain ⟨Z1, er1, hZ1, h35b⟩ := pf_ex hiT loT hh hl (σ.mant + 1) (by omega) (by omega) _ hp
    cases hq : (FloatKind.f64.format.order Z Z1 == some Ordering.eq) with
    | true => exact ⟨Z, er, hZ, fun s a b hT h1 _ => at_same hiT loT fT s a b hT σ h1 hm hm2 hp htr Z Z1 er er1 h35 h35b hq⟩
    | false =>
      have h19 := hok.trn htr
      obtain ⟨Zb, ov, hZb, hfb⟩ := fb_ex D (hN (by omega))
      exact ⟨Zb, ov, hZb, fun s a b hT h1 h2 => at_slow hiT loT fT s a b hT σ h1 hm hm2 hp htr Z Z1 er er1 h35 h35b hq D h2 Zb ov hfb⟩
end Go.Proofs.Qxb6608627aDoor
