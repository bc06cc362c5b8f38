import Derived.Test.Qxb6608627aDoorPack
namespace Go.Proofs.Qxb6608627aDoor
open Go.RowKit

theorem Pre.s0 {W : World} {b H L : Nat} {s : Int} (h : Pre W b H L s) (H' : Nat) : Pre (W.setCell ⟨b, 0, none⟩ (.int .u64 (H' : Int))) b H' L s := by
  unfold Pre at h ⊢
  rw [set_block h]; rfl
theorem Pre.s1 {W : World} {b H L : Nat} {s : Int} (h : Pre W b H L s) (L' : Nat) : Pre (W.setCell ⟨b, 1, none⟩ (.int .u64 (L' : Int))) b H L' s := by
  unfold Pre at h ⊢
  rw [set_block h]; rfl
theorem Pre.s2 {W : World} {b H L : Nat} {s : Int} (h : Pre W b H L s) (z s' : Int) (hz : z = s') : Pre (W.setCell ⟨b, 2, none⟩ (.int .i64 z)) b H L s' := by
  subst hz
  unfold Pre at h ⊢
  rw [set_block h]; rfl

set_option maxRecDepth 100000 in
set_option maxHeartbeats 2000000 in
theorem ps_walk (i : Nat) (hi : i < 696) (ee lpv : Int) (he : -100000 ≤ ee ∧ ee ≤ 100000) (hl : -100000 ≤ lpv ∧ lpv ≤ 100000) (H L b : Nat) (w : World) (hp : Pre w b 0 0 0) (h0 : w.cell? ⟨8, i * 2, none⟩ = some (.int .u64 (H : Int))) (h1 : w.cell? ⟨8, i * 2 + 1, none⟩ = some (.int .u64 (L : Int))) (hb : b ≠ 8) (s : Int) (hs : Hid (-(ee + lpv + 3) = s)) :
    Calls Tryd.prog 44 #[.pointer (some ⟨b, 0, none⟩), .int .i64 ee, .int .i64 ((i : Int) - 348), .int .i64 lpv] w fun e w' => e = .returned (.tuple #[]) ∧ Pre w' b H L s ∧ Kp b w w' := by
  have c0 := hp.c w 0
  have c1 := hp.c w 1
  have c2 := hp.c w 2
  have f0 := hp.fr w 0
  have f1 := hp.fr w 1
  have f2 := hp.fr w 2
  have hb' : (8 : Nat) ≠ b := fun h => hb h.symm
  have hz : (i : Int) - 348 - -348 = (i : Int) := by omega
  have hz2 : (i : Int) - 348 + 348 = (i : Int) := by omega
  have hi6 : (i : Int) < 696 := by omega
  have HP : Hid (Pre w b 0 0 0) := hp
  clear hp
  go_enter Tryd.func44, Tryd.ntmps44
  go_wp2
  go_end0
  refine ⟨rfl, ?_, ((((Kp.refl b w).setCell rfl _).setCell rfl _).setCell rfl _)⟩
  exact ((HP.out.s0 H).s1 L).s2 _ _ (by first | exact hs.out | (have := hs.out; omega))

theorem bitLen_le : ∀ (f x : Nat), Lib.bitLenAux f x ≤ f
  | 0, _ => Nat.le_refl _
  | f + 1, x => by
    unfold Lib.bitLenAux
    split
    · omega
    · have := bitLen_le f (x / 2)
      omega
theorem len_c (d : Nat) (hd : d < 18446744073709551616) (bl : Nat) (hbl : Lib.bitLen d = bl) (w : World) : Calls Tryd.prog 42 #[.int .u64 (d : Int)] w fun e w' => e = .returned (.int .i64 (bl : Int)) ∧ w' = w := by
  subst hbl
  have := Any.bits_Len64 Tryd.lays129 (d : Int) w (by omega) (by omega)
  rw [Int.toNat_natCast] at this
  exact this
def erv (x : Bool) : Value := if x = true then .iface 39 (.int .i64 1) else .nilIface
/-- what parseFloat64 answers, whatever the world -/
def PfDoes (hiT loT : Nat → Nat) (d : Nat) (p : Int) (Z : Nat) (er : Bool) : Prop := ∀ (B pb pbo lb lbo fb fbo : Nat) (fT : Nat → Nat) (w : World), Tb B pb pbo lb lbo fb fbo fT hiT loT w → B ≤ w.heap.size →
  Calls Tryd.prog 35 #[.int .u64 (d : Int), .int .i64 p, .int .u64 0] w fun e w' => e = .returned (.tuple #[.float .f64 Z, erv er]) ∧ Below w.heap.size w w'

theorem below_alloc_kp {w w' : World} (o : Obj) (h : Kp w.heap.size (w.alloc o) w') : Below w.heap.size w w' := ((Below.refl _ w).alloc (Nat.le_refl _) o).trans (h.below (Nat.le_refl _) (by simp))

set_option maxRecDepth 100000 in
set_option maxHeartbeats 4000000 in
theorem pf_walk (hiT loT : Nat → Nat) (d : Nat) (_hd : d < 18446744073709551616) (i : Nat) (hi7 : i < 696) (bl : Nat) (hbl1 : 1 ≤ bl) (hbl2 : bl ≤ 64) (q ee : Int) (hqb : -1200 ≤ q ∧ q ≤ 1100) (hee : Hid (min 1074 (53 - (bl : Int) - q) = ee))
    (hlen : ∀ W, Calls Tryd.prog 42 #[.int .u64 (d : Int)] W fun e w' => e = .returned (.int .i64 (bl : Int)) ∧ w' = W) (hlp : ∀ W, Calls Tryd.prog 43 #[.int .i64 ((i : Int) - 348)] W fun e w' => e = .returned (.int .i64 q) ∧ w' = W)
    (s : Nat) (hs : Hid (-(ee - (64 - (bl : Int)) + q + 3) = (s : Int))) (hs63 : s ≤ 63) (x : Nat) (hx : d * 2 ^ (64 - bl) % 18446744073709551616 = x) (u : Nat)
    (hu : ∀ (b : Nat) (w : World), Pre w b (hiT i) (loT i) (s : Int) → Calls Tryd.prog 45 #[.int .u64 (x : Int), .pointer (some ⟨b, 0, none⟩)] w fun e w' => e = .returned (.int .u64 (u : Int)) ∧ ∃ n, w' = w.drewN n)
    (cl : Bool) (hcl : decide (36028797018963966 ≤ u) = cl) (g K u1 : Nat) (hg : (if cl = true then 1 else 0 : Nat) = g) (hK : 2 ^ g = K) (hu1 : u / K = u1) (u2 : Nat) (hu2 : u1 ||| (u % 2) = u2) (hub : u < 72057594037927936) (hu2b : u2 < 72057594037927936)
    (m : Nat) (hm : rnd u2 = m) (hmb : m < 18446744073709551616) (Z : Nat) (er : Bool) (hpk : ∀ W, Calls Tryd.prog 52 #[.int .u64 (m : Int), .int .i64 (-(ee - (g : Int)))] W fun r w' => r = .returned (.tuple #[.float .f64 Z, erv er]) ∧ w' = W) : PfDoes hiT loT d ((i : Int) - 348) Z er := by
  intro B pb pbo lb lbo fb fbo fT w t hB
  have h0 := t.hi i hi7
  have h1 := t.lo i hi7
  have h8 : 8 < w.heap.size := by have := t.lt; omega
  have hb46 : ∀ W, Calls Tryd.prog 46 #[.bool cl] W fun e w' => e = .returned (.int .i64 (g : Int)) ∧ w' = W := fun W => by rw [← hg]; exact b2i_walk cl W
  have hclz : decide ((36028797018963966 : Int) ≤ (u : Int)) = cl := by
    rw [← hcl]
    by_cases h : 36028797018963966 ≤ u
    · rw [decide_eq_true h, decide_eq_true (by omega)]
    · rw [decide_eq_false h, decide_eq_false (by omega)]
  have hg1 : g ≤ 1 := by rw [← hg]; split <;> decide
  have hKz : ((2 : Int) ^ g) = (K : Int) := by rw [← hK]; push_cast; rfl
  have hdiv : (u : Int) / (K : Int) = (u1 : Int) := by rw [← hu1]; exact (Int.natCast_ediv u K).symm
  have hand : bits .and .u64 (u : Int) 1 = ((u % 2 : Nat) : Int) := by
    have := and_mask u 2 1 (by decide) (by decide) (by omega) (by decide)
    simpa using this
  obtain ⟨t2, ht2⟩ : ∃ t2, u % 2 = t2 := ⟨_, rfl⟩
  rw [ht2] at hand hu2
  have hu1b : u1 < 18446744073709551616 := by
    rw [← hu1]
    exact Nat.lt_of_le_of_lt (Nat.div_le_self _ _) (by omega)
  have hor : bits .or .u64 (u1 : Int) (t2 : Int) = (u2 : Int) := by
    have := bits_or_u64_nat u1 t2 hu1b (by omega)
    rw [hu2] at this
    exact this
  have hor0 : bits .or .u64 0 (m : Int) = (m : Int) := by
    have := bits_or_u64_nat 0 m (by decide) hmb
    simpa using this
  have hrnd : ∀ W, Calls Tryd.prog 49 #[.int .u64 (u2 : Int)] W fun e w' => e = .returned (.int .u64 (m : Int)) ∧ w' = W := fun W => by rw [← hm]; exact rnd_walk u2 hu2b W
  obtain ⟨y, hy⟩ : ∃ y : Nat, (64 : Int) - (bl : Int) = (y : Int) := ⟨64 - bl, by omega⟩
  have hyb : y ≤ 63 := by omega
  have hxw : IntKind.u64.wrap ((d : Int) * 2 ^ y) = (x : Int) := by
    have hyy : y = 64 - bl := by omega
    rw [hyy, IntKind.wrap_u64, ← hx, Int.natCast_emod, Int.natCast_mul, Int.natCast_pow]
    rfl
  have hs63z : ¬ (64 : Int) ≤ (s : Int) := by omega
  have hs63b : decide ((64 : Int) ≤ (s : Int)) = false := decide_eq_false hs63z
  have heb : -2000 ≤ ee ∧ ee ≤ 1074 := by have := hee.out; omega
  have HPR : Hid (∀ W, Pre (w.alloc (.cells #[.int .u64 0, .int .u64 0, .int .i64 0] 90)) w.heap.size 0 0 0 → W = (w.alloc (.cells #[.int .u64 0, .int .u64 0, .int .i64 0] 90)) → Calls Tryd.prog 44 #[.pointer (some ⟨w.heap.size, 0, none⟩), .int .i64 (ee - (y : Int)), .int .i64 ((i : Int) - 348), .int .i64 q] W fun e w' => e = .returned (.tuple #[]) ∧ Pre w' w.heap.size (hiT i) (loT i) (s : Int) ∧ Kp w.heap.size W w') := by
    intro W hpre hW
    subst hW
    have hbl : Below w.heap.size w (w.alloc (.cells #[.int .u64 0, .int .u64 0, .int .i64 0] 90)) := (Below.refl _ w).alloc (Nat.le_refl _) _
    exact ps_walk i hi7 _ _ (by omega) (by omega) _ _ _ _ hpre ((below_cell hbl h8).trans h0) ((below_cell hbl h8).trans h1) (by omega) _ (by rw [← hy]; exact hs)
  have HPRE0 : Hid (Pre (w.alloc (.cells #[.int .u64 0, .int .u64 0, .int .i64 0] 90)) w.heap.size 0 0 0) := (MapKept.heap_alloc w _).1
  have HEE : Hid (min 1074 (53 - (bl : Int) - q) = ee) := hee
  have hmin : min 1074 (53 - (bl : Int) - q) = ee := hee.out
  clear hs hx hg hK hu1 hu2 hm ht2 h0 h1 hB t hee
  go_enter Tryd.func35, Tryd.ntmps35
  go_wp2_with (first | (go_at_call 42; refine (hlen _).mono ?_; rintro e w' ⟨rfl, hw⟩; rw [hw]) | (go_at_call 43; refine (hlp _).mono ?_; rintro e w' ⟨rfl, hw⟩; rw [hw]))
  go_at_call 44
  refine (HPR.out _ HPRE0.out rfl).mono ?_
  rintro e w3 ⟨rfl, hp3, hk3⟩
  have hB3 := below_alloc_kp _ hk3
  have c2 : w3.cell? ⟨w.heap.size, 2, none⟩ = some (.int .i64 (s : Int)) := hp3.c w3 2
  go_wp2_with fail
  go_at_call 45
  refine (hu _ _ hp3).mono ?_
  rintro e w4 ⟨rfl, n4, hw4⟩
  have hB4 : Below w.heap.size w w4 := by rw [hw4]; exact hB3.trans ⟨rfl, rfl, rfl, Nat.le_refl _, fun _ _ => rfl⟩
  clear hw4 c2 hp3 hk3 hB3
  go_wp2_with fail
  go_at_call 47
  refine (unmin_walk _).mono ?_
  rintro e w' ⟨rfl, hw⟩
  rw [hw]
  clear hw
  go_wp2_with fail
  go_at_call 46
  try rw [hclz]
  refine (hb46 _).mono ?_
  rintro e w' ⟨rfl, hw⟩
  rw [hw]
  clear hw
  go_wp2_with fail
  go_at_call 49
  refine (hrnd _).mono ?_
  rintro e w' ⟨rfl, hw⟩
  rw [hw]
  clear hw
  go_wp2_with fail
  go_at_call 52
  refine (hpk _).mono ?_
  rintro e w' ⟨rfl, hw⟩
  rw [hw]
  clear hw
  go_wp2
  go_ret2
  exact ⟨rfl, hB4⟩

set_option maxRecDepth 100000 in
set_option maxHeartbeats 4000000 in
theorem pf_zero (hiT loT : Nat → Nat) (d : Nat) (i : Nat) (hi7 : i < 696) (bl : Nat) (hbl1 : 1 ≤ bl) (hbl2 : bl ≤ 64) (q ee : Int) (hqb : -1200 ≤ q ∧ q ≤ 1100) (hee : Hid (min 1074 (53 - (bl : Int) - q) = ee))
    (hlen : ∀ W, Calls Tryd.prog 42 #[.int .u64 (d : Int)] W fun e w' => e = .returned (.int .i64 (bl : Int)) ∧ w' = W) (hlp : ∀ W, Calls Tryd.prog 43 #[.int .i64 ((i : Int) - 348)] W fun e w' => e = .returned (.int .i64 q) ∧ w' = W)
    (s : Int) (hs : Hid (-(ee - (64 - (bl : Int)) + q + 3) = s)) (hs63 : 64 ≤ s) : PfDoes hiT loT d ((i : Int) - 348) 0 false := by
  intro B pb pbo lb lbo fb fbo fT w t hB
  have h0 := t.hi i hi7
  have h1 := t.lo i hi7
  have h8 : 8 < w.heap.size := by have := t.lt; omega
  obtain ⟨y, hy⟩ : ∃ y : Nat, (64 : Int) - (bl : Int) = (y : Int) := ⟨64 - bl, by omega⟩
  have hyb : y ≤ 63 := by omega
  have heb : -2000 ≤ ee ∧ ee ≤ 1074 := by have := hee.out; omega
  have HPR : Hid (∀ W, Pre (w.alloc (.cells #[.int .u64 0, .int .u64 0, .int .i64 0] 90)) w.heap.size 0 0 0 → W = (w.alloc (.cells #[.int .u64 0, .int .u64 0, .int .i64 0] 90)) → Calls Tryd.prog 44 #[.pointer (some ⟨w.heap.size, 0, none⟩), .int .i64 (ee - (y : Int)), .int .i64 ((i : Int) - 348), .int .i64 q] W fun e w' => e = .returned (.tuple #[]) ∧ Pre w' w.heap.size (hiT i) (loT i) s ∧ Kp w.heap.size W w') := by
    intro W hpre hW
    subst hW
    have hbl : Below w.heap.size w (w.alloc (.cells #[.int .u64 0, .int .u64 0, .int .i64 0] 90)) := (Below.refl _ w).alloc (Nat.le_refl _) _
    exact ps_walk i hi7 _ _ (by omega) (by omega) _ _ _ _ hpre ((below_cell hbl h8).trans h0) ((below_cell hbl h8).trans h1) (by omega) _ (by rw [← hy]; exact hs)
  have HPRE0 : Hid (Pre (w.alloc (.cells #[.int .u64 0, .int .u64 0, .int .i64 0] 90)) w.heap.size 0 0 0) := (MapKept.heap_alloc w _).1
  have hmin : min 1074 (53 - (bl : Int) - q) = ee := hee.out
  have b5 := bx5
  have hf : ∀ W, (callFunc 33 #[.int .u64 0]).run Tryd.prog W = .ok (.value (.float .f64 0)) W := frombits_run 0
  clear hs h0 h1 hB t hee
  go_enter Tryd.func35, Tryd.ntmps35
  go_wp2_with (first | (go_at_call 42; refine (hlen _).mono ?_; rintro e w' ⟨rfl, hw⟩; rw [hw]) | (go_at_call 43; refine (hlp _).mono ?_; rintro e w' ⟨rfl, hw⟩; rw [hw]))
  go_at_call 44
  refine (HPR.out _ HPRE0.out rfl).mono ?_
  rintro e w3 ⟨rfl, hp3, hk3⟩
  have hB3 := below_alloc_kp _ hk3
  have c2 : w3.cell? ⟨w.heap.size, 2, none⟩ = some (.int .i64 s) := hp3.c w3 2
  go_wp2_with fail
  go_ret2
  exact ⟨rfl, hB3⟩

theorem pf_ex (hiT loT : Nat → Nat) (hh : ∀ i, hiT i < 18446744073709551616) (hl : ∀ i, loT i < 18446744073709551616) (d : Nat) (hd1 : 1 ≤ d) (hd : d < 18446744073709551616) (p : Int) (hp : -345 ≤ p ∧ p ≤ 310) : ∃ Z er, Z ≤ ovB ∧ PfDoes hiT loT d p Z er := by
  obtain ⟨i, hi⟩ : ∃ i : Nat, p = (i : Int) - 348 := ⟨(p + 348).toNat, by omega⟩
  subst hi
  have hi7 : i < 696 := by omega
  obtain ⟨bl, hbl⟩ : ∃ bl, Lib.bitLen d = bl := ⟨_, rfl⟩
  have hbl2 : bl ≤ 64 := by rw [← hbl]; exact bitLen_le 64 d
  have hbl1 : 1 ≤ bl := by
    rw [← hbl]
    unfold Lib.bitLen Lib.bitLenAux
    rw [if_neg (by omega)]
    omega
  obtain ⟨q, hq⟩ : ∃ q, lp ((i : Int) - 348) = q := ⟨_, rfl⟩
  have hqb : -1200 ≤ q ∧ q ≤ 1100 := by rw [← hq]; unfold lp; omega
  have hlen := fun W => len_c d hd bl hbl W
  have hlp : ∀ W, Calls Tryd.prog 43 #[.int .i64 ((i : Int) - 348)] W fun e w' => e = .returned (.int .i64 q) ∧ w' = W := fun W => by rw [← hq]; exact lp_walk _ (by omega) W
  obtain ⟨ee, hee⟩ : ∃ ee : Int, min 1074 (53 - (bl : Int) - q) = ee := ⟨_, rfl⟩
  by_cases hs : 64 ≤ -(ee - (64 - (bl : Int)) + q + 3)
  · exact ⟨0, false, Nat.zero_le _, pf_zero hiT loT d i hi7 bl hbl1 hbl2 q ee hqb hee hlen hlp _ rfl hs⟩
  obtain ⟨s, hse⟩ : ∃ s : Nat, -(ee - (64 - (bl : Int)) + q + 3) = (s : Int) := ⟨(-(ee - (64 - (bl : Int)) + q + 3)).toNat, by omega⟩
  have hs8 : 8 ≤ s ∧ s ≤ 63 := by omega
  obtain ⟨u, hub, hu⟩ := us_ex (d * 2 ^ (64 - bl) % 18446744073709551616) (hiT i) (loT i) s (Nat.mod_lt _ (by decide)) (hh i) (hl i) hs8
  obtain ⟨cl, hcl⟩ : ∃ cl : Bool, decide (36028797018963966 ≤ u) = cl := ⟨_, rfl⟩
  obtain ⟨g, hg⟩ : ∃ g : Nat, (if cl = true then 1 else 0 : Nat) = g := ⟨_, rfl⟩
  have hg1 : g ≤ 1 := by rw [← hg]; split <;> decide
  have hu1 : u / 2 ^ g < 36028797018963968 := by
    rw [← hg, ← hcl]
    by_cases h : 36028797018963966 ≤ u
    · rw [if_pos (decide_eq_true h)]; omega
    · rw [if_neg (by rw [decide_eq_false h]; exact Bool.false_ne_true)]; omega
  obtain ⟨u2, hu2⟩ : ∃ u2, u / 2 ^ g ||| (u % 2) = u2 := ⟨_, rfl⟩
  have hu2b : u2 < 36028797018963968 := by
    rw [← hu2]
    have h1 : u / 2 ^ g < 2 ^ 55 := by omega
    have h2 : u % 2 < 2 ^ 55 := by omega
    have := Nat.or_lt_two_pow h1 h2
    omega
  have hm := rnd_le hu2b
  have go : ∀ Z er, (∀ W, Calls Tryd.prog 52 #[.int .u64 (rnd u2 : Int), .int .i64 (-(ee - (g : Int)))] W fun r w' => r = .returned (.tuple #[.float .f64 Z, erv er]) ∧ w' = W) → PfDoes hiT loT d ((i : Int) - 348) Z er :=
    fun Z er hpk => pf_walk hiT loT d hd i hi7 bl hbl1 hbl2 q ee hqb hee hlen hlp s hse hs8.2 _ rfl u hu cl hcl g (2 ^ g) _ hg rfl rfl u2 hu2 hub (by omega) _ rfl (by omega) Z er hpk
  by_cases h52 : rnd u2 / 4503599627370496 % 2 = 0
  · exact ⟨rnd u2, false, by unfold ovB; omega, go _ _ (fun W => pk_low _ _ hm h52 W)⟩
  · by_cases h972 : 972 ≤ -(ee - (g : Int))
    · exact ⟨9218868437227405312, true, Nat.le_refl _, go _ _ (fun W => pk_over _ _ hm h52 h972 W)⟩
    · obtain ⟨x, hx⟩ : ∃ x : Nat, 1075 + -(ee - (g : Int)) = (x : Int) := ⟨(1075 + -(ee - (g : Int))).toNat, by omega⟩
      refine ⟨_, false, ?_, go _ _ (fun W => pk_num _ x _ hm h52 (by omega) hx W)⟩
      unfold ovB
      omega
end Go.Proofs.Qxb6608627aDoor
