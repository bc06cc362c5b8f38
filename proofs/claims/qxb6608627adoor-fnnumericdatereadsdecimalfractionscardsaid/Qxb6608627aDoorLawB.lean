import Derived.Test.Qxb6608627aDoorLaw
namespace Go.Proofs.Qxb6608627aDoor
open Go.RowKit

theorem wand_kp {B g : Nat} {w w1 w2 : World} (h : Below B w w1) (hB : B ≤ w.heap.size) (hg : B ≤ g) (hk : Kp g w1 w2) : Below B w w2 := h.trans (hk.below hg (Nat.le_trans hB h.size))
theorem isD_of {l : List UInt8} (h : ∀ c ∈ l, dig c) : isD (l.map fun c => c.toNat) = true := by
  unfold isD
  rw [List.all_eq_true]
  intro x hx
  obtain ⟨c, hc, rfl⟩ := List.mem_map.1 hx
  have := h c hc
  unfold dig at this
  simp [this]

theorem two_src (w : World) (o : Obj) (c : UInt8) (v : Int) (hv : v = (c.toNat : Int)) : Src Tryd.prog 1 22 (.slice (some ⟨w.heap.size + 1, 0, none⟩) 1 1) 1 (bc [c]) ((w.alloc o).alloc (.cells #[.int .u8 v] 5)) := by
  have := one_src (w.alloc o) c v hv
  simpa using this

set_option maxRecDepth 100000 in
set_option maxHeartbeats 4000000 in
theorem law_yes (hiT loT fT : Nat → Nat) (a b : List UInt8) (ha : ∀ c ∈ a, dig c) (hb : ∀ c ∈ b, dig c) (hne : a ≠ []) (hn : a.length + b.length ≤ 1048576) (s z : ByteArray) (hs : s.data.toList = a ++ 46 :: b) (hz : z.data.toList = 48 :: (a ++ 46 :: b))
    (Z : Nat) (hZ : Z ≤ ovB) (hns : NdDoes hiT loT fT s Z) (hnz : NdDoes hiT loT fT z Z) (hfew : a.length + b.length ≤ 15 → floatBits .quo .f64 (floatOfInt .f64 ((lval a * 10 ^ b.length + lval b : Nat) : Int)) (f10 b.length) = some Z)
    (A1 A2 : Option Addr) (c1 c2 : Nat) (B pb pbo lb lbo fb fbo : Nat) (w : World) (t : Tb B pb pbo lb lbo fb fbo fT hiT loT w) (hB : B ≤ w.heap.size) (hE : ∃ te pe, w.cell? ⟨1, 0, none⟩ = some (.iface te pe)) (h1 : Sl w A1 (a.map fun c => c.toNat)) (h2 : Sl w A2 (b.map fun c => c.toNat)) :
    Calls Tryd.prog 3 #[.slice A1 a.length c1, .slice A2 b.length c2] w fun e w' => e = .returned (.bool true) ∧ Below w.heap.size w w' := by
  have h4 := bytes_yes A1 A2 a.length c1 b.length c2 hn w
  have d1 := alld_walk A1 (a.map fun c : UInt8 => c.toNat) c1 (by rw [List.length_map]; omega) w h1 true (by exact isD_of ha)
  have d2 := alld_walk A2 (b.map fun c : UInt8 => c.toNat) c2 (by rw [List.length_map]; omega) w h2 true (by exact isD_of hb)
  rw [List.length_map] at d1 d2
  have hpos : 0 < a.length := List.length_pos_iff.2 hne
  have hss : s.size = a.length + b.length + 1 := by rw [Lib.size_eq, hs, List.length_append, List.length_cons]; omega
  have hzs : z.size = a.length + b.length + 2 := by rw [Lib.size_eq, hz, List.length_cons, List.length_append, List.length_cons]; omega
  have hfe : (FloatKind.f64.format.order Z Z == some Ordering.eq) = true := feq_self hZ
  have hfn : (FloatKind.f64.format.order Z Z != some Ordering.eq) = false := by rw [bne, hfe]; rfl
  have hE1 : 1 < w.heap.size := by have := t.lt; omega
  have HS : ∀ W g cap, Below w.heap.size w W → Own W g cap (a ++ [46] ++ b) → Calls Tryd.prog 6 #[.slice (some ⟨g, 0, none⟩) (a.length + b.length + 1) cap] W fun e w' => e = .returned (.tuple #[.float .f64 Z, .bool true]) ∧ Below W.heap.size W w' := by
    intro W g cap hW hO
    rw [← hss]
    obtain ⟨te, pe, hte⟩ := hE
    exact hns B pb pbo lb lbo fb fbo W (t.mono (hW.mono hB)) (Nat.le_trans hB hW.size) ⟨te, pe, (below_cell hW hE1).trans hte⟩ g cap (hO.bytes s (by rw [hs]; simp))
  have HZ : ∀ W g cap, Below w.heap.size w W → Own W g cap ([48] ++ (a ++ [46] ++ b)) → Calls Tryd.prog 6 #[.slice (some ⟨g, 0, none⟩) (a.length + b.length + 2) cap] W fun e w' => e = .returned (.tuple #[.float .f64 Z, .bool true]) ∧ Below W.heap.size W w' := by
    intro W g cap hW hO
    rw [← hzs]
    obtain ⟨te, pe, hte⟩ := hE
    exact hnz B pb pbo lb lbo fb fbo W (t.mono (hW.mono hB)) (Nat.le_trans hB hW.size) ⟨te, pe, (below_cell hW hE1).trans hte⟩ g cap (hO.bytes z (by rw [hz]; simp))
  have S1 : ∀ W, Below w.heap.size w W → Src Tryd.prog 1 22 (.slice A1 a.length c1) a.length (bc a) W := fun W hW => (h1.below hW).src c1
  have S2 : ∀ W, Below w.heap.size w W → Src Tryd.prog 1 22 (.slice A2 b.length c2) b.length (bc b) W := fun W hW => (h2.below hW).src c2
  have V1 : a.length + b.length ≤ 15 → ∀ W, Below w.heap.size w W → Calls Tryd.prog 7 #[.slice A1 a.length c1] W fun e w' => e = .returned (.int .u64 ((lval a : Nat) : Int)) ∧ w' = W := by
    intro h15 W hW
    have := dv_walk A1 (a.map fun c => c.toNat) c1 (by rw [List.length_map]; omega) (by intro x hx; obtain ⟨c, hc, rfl⟩ := List.mem_map.1 hx; exact ha c hc) W (h1.below hW) (lval a) (by show _ = _; rw [dv_lval]; omega)
    rwa [List.length_map] at this
  have V2 : a.length + b.length ≤ 15 → ∀ W, Below w.heap.size w W → Calls Tryd.prog 7 #[.slice A2 b.length c2] W fun e w' => e = .returned (.int .u64 ((lval b : Nat) : Int)) ∧ w' = W := by
    intro h15 W hW
    have := dv_walk A2 (b.map fun c => c.toNat) c2 (by rw [List.length_map]; omega) (by intro x hx; obtain ⟨c, hc, rfl⟩ := List.mem_map.1 hx; exact hb c hc) W (h2.below hW) (lval b) (by show _ = _; rw [dv_lval]; omega)
    rwa [List.length_map] at this
  have HLT : Hid (a.length + b.length ≤ 15 → lval a * 10 ^ b.length + lval b < 1000000000000000) := by
    intro h15
    have h1 := lval_lt' a ha
    have h2 := lval_lt' b hb
    have h3 : (lval a + 1) * 10 ^ b.length ≤ 10 ^ a.length * 10 ^ b.length := Nat.mul_le_mul_right _ h1
    rw [← Nat.pow_add, Nat.add_mul] at h3
    have h4 : (10 : Nat) ^ (a.length + b.length) ≤ 10 ^ 15 := Nat.pow_le_pow_right (by decide) h15
    have h5 : (10 : Nat) ^ 15 = 1000000000000000 := by decide
    omega
  have HFEW : Hid (a.length + b.length ≤ 15 → floatBits .quo .f64 (floatOfInt .f64 ((lval a * 10 ^ b.length + lval b : Nat) : Int)) (f10 b.length) = some Z) := hfew
  have HA1 : Hid (a.length = a.length) := rfl
  obtain ⟨n1, hn1⟩ : ∃ n, a.length = n := ⟨_, rfl⟩
  obtain ⟨n2, hn2⟩ : ∃ n, b.length = n := ⟨_, rfl⟩
  have HN1 : Hid (a.length = n1) := hn1
  have HN2 : Hid (b.length = n2) := hn2
  rw [hn1, hn2] at h4 hn
  rw [hn1] at d1 hpos
  rw [hn2] at d2
  simp only [hn1, hn2] at HS HZ S1 S2 V1 V2
  rw [hn1, hn2] at HLT HFEW ⊢
  clear hn1 hn2 hfew hns hnz hss hzs ha hb hne hs hz hZ t hB hE h1 h2 HA1 hE1
  have q0 : ((n1 : Int) == 0) = false := by rw [beq_eq_false_iff_ne]; omega
  have q1 : decide ((1048576 : Int) < (n1 : Int)) = false := decide_eq_false (by omega)
  have q2 : decide ((1048576 : Int) - (n1 : Int) < (n2 : Int)) = false := decide_eq_false (by omega)
  obtain ⟨M1, hM1, hmk1⟩ : ∃ M, (∀ W : World, Own (W.alloc (.cells M 5)) W.heap.size (n1 + n2 + 1) []) ∧ ∀ W : World, (Instr.makeSlice 22 (.int .i64 0) (.int .i64 ((n1 : Int) + (n2 : Int) + 1))).run Tryd.prog W = .ok (.slice (some ⟨W.heap.size, 0, none⟩) 0 (n1 + n2 + 1)) (W.alloc (.cells M 5)) := by
    refine ⟨madeCells #[.int .u8 0] (n1 + n2 + 1), fun W => own_new W _, fun W => ?_⟩
    have := run_make_room (P := Tryd.prog) 22 5 (.int .u8 0) 1 Tryd.underlying22 info5 rfl .i64 .i64 (n1 + n2 + 1) (by omega) (by omega) W
    rw [show ((n1 + n2 + 1 : Nat) : Int) = (n1 : Int) + (n2 : Int) + 1 by omega] at this
    exact this
  obtain ⟨M2, hM2, hmk2⟩ : ∃ M, (∀ W : World, Own (W.alloc (.cells M 5)) W.heap.size (n1 + n2 + 2) []) ∧ ∀ W : World, (Instr.makeSlice 22 (.int .i64 0) (.int .i64 ((n1 : Int) + (n2 : Int) + 1 + 1))).run Tryd.prog W = .ok (.slice (some ⟨W.heap.size, 0, none⟩) 0 (n1 + n2 + 2)) (W.alloc (.cells M 5)) := by
    refine ⟨madeCells #[.int .u8 0] (n1 + n2 + 2), fun W => own_new W _, fun W => ?_⟩
    have := run_make_room (P := Tryd.prog) 22 5 (.int .u8 0) 1 Tryd.underlying22 info5 rfl .i64 .i64 (n1 + n2 + 2) (by omega) (by omega) W
    rw [show ((n1 + n2 + 2 : Nat) : Int) = (n1 : Int) + (n2 : Int) + 1 + 1 by omega] at this
    exact this
  go_enter Tryd.func3, Tryd.ntmps3
  go_wp2_with fail
  go_at_call 4
  refine h4.mono ?_
  rintro e w' ⟨rfl, hw⟩
  rw [hw]
  clear h4
  go_wp2_with fail
  go_at_call 5
  refine d1.mono ?_
  rintro e w' ⟨rfl, hw⟩
  rw [hw]
  clear d1
  go_wp2_with fail
  go_at_call 5
  refine d2.mono ?_
  rintro e w' ⟨rfl, hw⟩
  rw [hw]
  clear d2 hw
  have hle := Nat.le_refl w.heap.size
  have hb1 : Below w.heap.size w (w.alloc (.cells M1 5)) := (Below.refl _ w).alloc hle _
  have HTL : Hid ((a ++ [46] ++ b).length = n1 + n2 + 1) := by
    show _ = _
    rw [List.length_append, List.length_append, HN1.out, HN2.out, List.length_singleton]; omega
  go_wp2_with (at_builtin; first
    | (refine wpList_app _ rfl _ _ rfl w4.heap.size (n1 + n2 + 2) _ 1 rfl rfl hO6 _ rfl (a ++ [46] ++ b) (n1 + n2 + 1) HTL.out (by have := hT6.src; rw [HTL.out] at this; exact this) (n1 + n2 + 2) (by omega) (Nat.le_refl _) ?_
       intro w7 hO7 hk7
       have hb7 := wand_kp hb6 hle hb4.size hk7
       have hT7 := hT6.kp hk7 hne4)
    | (refine wpList_app _ rfl _ _ rfl w4.heap.size (n1 + n2 + 2) [] 0 rfl rfl ((hM2 w4).alloc _) _ rfl [48] 1 rfl (two_src w4 _ 48 48 rfl) 1 rfl (by omega) ?_
       intro w6 hO6 hk6
       have hb5 := hb4.alloc hb4.size (.cells M2 5)
       have hb6 := wand_kp (hb5.alloc hb5.size _) hle hb4.size hk6
       have hne4 : w.heap.size ≠ w4.heap.size := Nat.ne_of_lt hO4.lt
       have hT6 := ((hO4.alloc (.cells M2 5)).alloc _).kp hk6 hne4)
    | (refine wpList_app _ rfl _ _ rfl w.heap.size (n1 + n2 + 1) _ (n1 + 1) (by rw [List.length_append, List.nil_append, HN1.out]; rfl) rfl hO3 _ rfl b n2 HN2.out (S2 _ hb3) (n1 + n2 + 1) (by omega) (Nat.le_refl _) ?_
       intro w4 hO4' hk4
       have hb4 := wand_kp hb3 hle hle hk4
       have hO4 : Own w4 w.heap.size (n1 + n2 + 1) (a ++ [46] ++ b) := hO4'
       clear hO4')
    | (refine wpList_app _ rfl _ _ rfl w.heap.size (n1 + n2 + 1) _ n1 (by rw [List.nil_append]; exact HN1.out) rfl (hO2.alloc _) _ rfl [46] 1 rfl (one_src w2 46 46 rfl) (n1 + 1) rfl (by omega) ?_
       intro w3 hO3 hk3
       have hb3 := wand_kp (hb2.alloc hb2.size _) hle hle hk3)
    | (refine wpList_app _ rfl _ _ rfl w.heap.size (n1 + n2 + 1) [] 0 rfl rfl (hM1 w) _ rfl a n1 HN1.out (S1 _ hb1) n1 (Nat.zero_add _) (by omega) ?_
       intro w2 hO2 hk2
       have hb2 := wand_kp hb1 hle hle hk2))
  go_at_call 6
  refine (HS w7 _ _ hb7 hT7).mono ?_
  rintro e w8 ⟨rfl, h78⟩
  have hb8 : Below w.heap.size w w8 := hb7.trans (h78.mono hb7.size)
  have hO8 := hO7.below h78
  clear HS hO7 hT7 h78 hO6 hT6 hb6 hb7 hk7 hk6 hO4 hb4 hk4 hb5 hO3 hb3 hk3 hO2 hb2 hk2 hmk1 hmk2 hM1 hM2 S1 S2
  go_wp2_with fail
  go_at_call 6
  refine (HZ w8 _ _ hb8 hO8).mono ?_
  rintro e w9 ⟨rfl, h89⟩
  have hb9 : Below w.heap.size w w9 := hb8.trans (h89.mono hb8.size)
  clear HZ hO8 h89 hb8
  by_cases h15 : (15 : Int) < (n1 : Int) + (n2 : Int)
  · clear HFEW HLT V1 V2
    go_wp2_with fail
    go_ret
    exact ⟨rfl, hb9⟩
  · have q15 : decide ((15 : Int) < (n1 : Int) + (n2 : Int)) = false := decide_eq_false h15
    have k15 : n1 + n2 ≤ 15 := by omega
    have v1 := V1 k15 w9 hb9
    have v2 := V2 k15 w9 hb9
    have hlt := HLT.out k15
    have hq := HFEW.out k15
    obtain ⟨P, hP⟩ : ∃ P, 10 ^ n2 = P := ⟨_, rfl⟩
    have p1 := pow_walk n2 (by omega) P hP w9
    have hpi := f10_int (k := n2) (by omega)
    rw [hP] at hlt hq hpi
    obtain ⟨VA, hVA⟩ : ∃ V, lval a = V := ⟨_, rfl⟩
    obtain ⟨VB, hVB⟩ : ∃ V, lval b = V := ⟨_, rfl⟩
    rw [hVA, hVB] at hlt hq
    rw [hVA] at v1
    rw [hVB] at v2
    rw [← hpi] at hq
    obtain ⟨Y, hY⟩ : ∃ Y, VA * P = Y := ⟨_, rfl⟩
    rw [hY] at hlt hq
    have wm : IntKind.u64.wrap ((VA : Int) * (P : Int)) = (Y : Int) := by rw [← Int.natCast_mul, hY]; exact u64_id (by omega) (by omega)
    obtain ⟨X, hX⟩ : ∃ X, Y + VB = X := ⟨_, rfl⟩
    rw [hX] at hlt hq
    have wa : IntKind.u64.wrap ((Y : Int) + (VB : Int)) = (X : Int) := u64_of (by omega) (by omega)
    have hrun : ∀ W, (binOp .quo 25 (.float .f64 (floatOfInt .f64 (X : Int))) (.float .f64 (floatOfInt .f64 (P : Int)))).run Tryd.prog W = .ok (.float .f64 Z) W := fun W => run_float_arith W .quo 25 .f64 _ _ _ hq
    clear HFEW HLT V1 V2 hpi hq hVA hVB hP hY hX HTL HN1 HN2 hb1 hne4 h15
    go_wp2_with fail
    go_at_call 7
    refine v1.mono ?_
    rintro e w' ⟨rfl, hw⟩
    rw [hw]
    go_wp2_with fail
    go_at_call 8
    refine p1.mono ?_
    rintro e w' ⟨rfl, hw⟩
    rw [hw]
    go_wp2_with fail
    go_at_call 7
    refine v2.mono ?_
    rintro e w' ⟨rfl, hw⟩
    rw [hw]
    go_wp2_with fail
    go_at_call 8
    refine p1.mono ?_
    rintro e w' ⟨rfl, hw⟩
    rw [hw]
    go_wp2_with fail
    go_ret
    exact ⟨rfl, hb9⟩

theorem dig_of {l : List UInt8} (h : ¬ isD (l.map fun c => c.toNat) = false) : ∀ c ∈ l, dig c := by
  intro c hc
  have h1 : isD (l.map fun c => c.toNat) = true := by simpa using h
  unfold isD at h1
  have h2 := List.all_eq_true.1 h1 c.toNat (List.mem_map.2 ⟨c, hc, rfl⟩)
  simpa [dig] using h2
/-- the law, at every input -/
theorem law_all (hiT loT fT : Nat → Nat) (hh : ∀ i, hiT i < 18446744073709551616) (hl : ∀ i, loT i < 18446744073709551616) (hfT : ∀ i, i < 23 → fT i = f10 i) (a b : List UInt8) (A1 A2 : Option Addr) (c1 c2 : Nat) (B pb pbo lb lbo fb fbo : Nat) (w : World) (t : Tb B pb pbo lb lbo fb fbo fT hiT loT w) (hB : B ≤ w.heap.size)
    (hE : ∃ te pe, w.cell? ⟨1, 0, none⟩ = some (.iface te pe)) (h1 : Sl w A1 (a.map fun c => c.toNat)) (h2 : Sl w A2 (b.map fun c => c.toNat)) :
    Calls Tryd.prog 3 #[.slice A1 a.length c1, .slice A2 b.length c2] w fun e w' => e = .returned (.bool true) ∧ Below w.heap.size w w' := by
  by_cases hno : 1048576 < (a.map fun c : UInt8 => c.toNat).length + (b.map fun c : UInt8 => c.toNat).length ∨ (a.map fun c : UInt8 => c.toNat) = [] ∨ isD (a.map fun c : UInt8 => c.toNat) = false ∨ isD (b.map fun c : UInt8 => c.toNat) = false
  · have h := law_no A1 A2 (a.map fun c : UInt8 => c.toNat) (b.map fun c : UInt8 => c.toNat) c1 c2 w h1 h2 hno
    rw [List.length_map, List.length_map] at h
    refine h.mono ?_
    rintro e w' ⟨rfl, rfl⟩
    exact ⟨rfl, Below.refl _ _⟩
  · rw [not_or, not_or, not_or, List.length_map, List.length_map] at hno
    obtain ⟨k1, k2, k3, k4⟩ := hno
    have ha := dig_of k3
    have hb := dig_of k4
    have hne : a ≠ [] := fun e => k2 (by rw [e]; rfl)
    obtain ⟨Z, hZ, g1, g2, g3⟩ := nd_both hiT loT fT hh hl hfT a b ha hb hne (by omega) ⟨(a ++ 46 :: b).toArray⟩ ⟨(48 :: (a ++ 46 :: b)).toArray⟩ rfl rfl
    exact law_yes hiT loT fT a b ha hb hne (by omega) _ _ rfl rfl Z hZ g1 g2 g3 A1 A2 c1 c2 B pb pbo lb lbo fb fbo w t hB hE h1 h2
end Go.Proofs.Qxb6608627aDoor
