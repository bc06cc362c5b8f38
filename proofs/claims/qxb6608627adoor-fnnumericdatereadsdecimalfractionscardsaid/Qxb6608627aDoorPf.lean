import Derived.Test.Qxb6608627aDoorShelf
import Derived.Test.Qxb6608627aDoorBits
namespace Go.Proofs.Qxb6608627aDoor
open Go.RowKit

set_option maxRecDepth 100000 in
set_option maxHeartbeats 1000000 in
theorem b2_walk (x : Bool) (w : World) : Calls Tryd.prog 32 #[.bool x] w fun e w' => e = .returned (.int .u64 ((if x = true then 1 else 0 : Nat) : Int)) ∧ w' = w := by
  cases x
  · go_enter Tryd.func32, Tryd.ntmps32
    go_wp2
    go_ret
    exact ⟨rfl, rfl⟩
  · go_enter Tryd.func32, Tryd.ntmps32
    go_wp2
    go_ret
    exact ⟨rfl, rfl⟩
set_option maxRecDepth 100000 in
set_option maxHeartbeats 1000000 in
theorem b2i_walk (x : Bool) (w : World) : Calls Tryd.prog 46 #[.bool x] w fun e w' => e = .returned (.int .i64 ((if x = true then 1 else 0 : Nat) : Int)) ∧ w' = w := by
  cases x
  · go_enter Tryd.func46, Tryd.ntmps46
    go_wp2
    go_ret
    exact ⟨rfl, rfl⟩
  · go_enter Tryd.func46, Tryd.ntmps46
    go_wp2
    go_ret
    exact ⟨rfl, rfl⟩
set_option maxRecDepth 100000 in
set_option maxHeartbeats 1000000 in
theorem unmin_walk (w : World) : Calls Tryd.prog 47 #[.int .u64 9007199254740992] w fun e w' => e = .returned (.int .u64 36028797018963966) ∧ w' = w := by
  go_enter Tryd.func47, Tryd.ntmps47
  go_wp2
  go_ret
  exact ⟨rfl, rfl⟩
def lp (p : Int) : Int := p * 108853 / 32768
set_option maxRecDepth 100000 in
set_option maxHeartbeats 1000000 in
theorem lp_walk (p : Int) (h : -1000 ≤ p ∧ p ≤ 1000) (w : World) : Calls Tryd.prog 43 #[.int .i64 p] w fun e w' => e = .returned (.int .i64 (lp p)) ∧ w' = w := by
  go_enter Tryd.func43, Tryd.ntmps43
  go_wp2
  go_ret
  exact ⟨rfl, rfl⟩
/-- round's answer -/
def rnd (u : Nat) : Nat := (u + 1 + u / 4 % 2) / 4
set_option maxRecDepth 100000 in
set_option maxHeartbeats 1000000 in
theorem rnd_walk (u : Nat) (h : u < 72057594037927936) (w : World) : Calls Tryd.prog 49 #[.int .u64 (u : Int)] w fun e w' => e = .returned (.int .u64 (rnd u : Int)) ∧ w' = w := by
  obtain ⟨t, ht⟩ : ∃ t, u / 4 % 2 = t := ⟨_, rfl⟩
  have hand : bits .and .u64 ((u : Int) / 4) 1 = (t : Int) := by
    have := and_mask (u / 4) 2 1 (by decide) (by decide) (by omega) (by decide)
    rw [ht] at this
    simpa using this
  obtain ⟨X, hX⟩ : ∃ X, u + 1 + t = X := ⟨_, rfl⟩
  obtain ⟨Z, hZ⟩ : ∃ Z, X / 4 = Z := ⟨_, rfl⟩
  have w1 : IntKind.u64.wrap ((u : Int) + 1 + (t : Int)) = (X : Int) := u64_of (by omega) (by omega)
  have w2 : (X : Int) / 4 = (Z : Int) := by omega
  have HR : Hid (rnd u = Z) := by show _ = _; unfold rnd; rw [ht, hX, hZ]
  rw [HR.out]
  clear ht HR hX hZ
  go_enter Tryd.func49, Tryd.ntmps49
  go_wp2
  go_ret
  exact ⟨rfl, rfl⟩
theorem rnd_le {u : Nat} (h : u < 36028797018963968) : rnd u ≤ 9007199254740992 := by unfold rnd; omega

/-- pre: the block of the scaler -/
def Pre (W : World) (b : Nat) (H L : Nat) (s : Int) : Prop := W.heap[b]? = some (.cells #[.int .u64 (H : Int), .int .u64 (L : Int), .int .i64 s] 90)
theorem Pre.c (W : World) {b H L : Nat} {s : Int} (h : Pre W b H L s) (k : Nat) : W.cell? ⟨b, k, none⟩ = (#[.int .u64 (H : Int), .int .u64 (L : Int), .int .i64 s] : Array Value)[k]? := by unfold Pre at h; simp [World.cell?, h]
theorem Pre.fr (W : World) {b H L : Nat} {s : Int} (h : Pre W b H L s) (k : Nat) : W.frozen? ⟨b, k, none⟩ = false := by unfold Pre at h; simp [World.frozen?, h]
theorem mul_c (x y : Nat) (hx : x < 18446744073709551616) (hy : y < 18446744073709551616) (A C : Nat) (hA : x * y / 18446744073709551616 = A) (hC : x * y % 18446744073709551616 = C) (w : World) :
    Calls Tryd.prog 54 #[.int .u64 (x : Int), .int .u64 (y : Int)] w fun e w' => e = .returned (.tuple #[.int .u64 (A : Int), .int .u64 (C : Int)]) ∧ w' = w := by
  subst hA hC
  exact Any.bits_Mul64 Tryd.lays264 x y hx hy w

set_option maxRecDepth 100000 in
set_option maxHeartbeats 4000000 in
/-- uscale: some number below 2^56, whatever the world -/
theorem us_ex (x H L : Nat) (s : Nat) (hx : x < 18446744073709551616) (hH : H < 18446744073709551616) (hL : L < 18446744073709551616) (hs : 8 ≤ s ∧ s ≤ 63) :
    ∃ u : Nat, u < 72057594037927936 ∧ ∀ (b : Nat) (w : World), Pre w b H L (s : Int) → Calls Tryd.prog 45 #[.int .u64 (x : Int), .pointer (some ⟨b, 0, none⟩)] w fun e w' => e = .returned (.int .u64 (u : Int)) ∧ ∃ n, w' = w.drewN n := by
  obtain ⟨A, hA⟩ : ∃ A, x * H / 18446744073709551616 = A := ⟨_, rfl⟩
  obtain ⟨C, hC⟩ : ∃ C, x * H % 18446744073709551616 = C := ⟨_, rfl⟩
  obtain ⟨K, hK⟩ : ∃ K : Nat, 2 ^ s = K := ⟨_, rfl⟩
  have hand : bits .and .i64 (s : Int) 63 = (s : Int) := by
    have h1 : (BitVec.ofInt 64 (s : Int)).toNat = s := by
      rw [BitVec.ofInt_natCast, BitVec.toNat_ofNat]; exact Nat.mod_eq_of_lt (by omega)
    have h2 : (BitVec.ofInt 64 (63 : Int)).toNat = 63 := by decide
    show IntKind.i64.wrap ((BitVec.ofInt 64 (s : Int) &&& BitVec.ofInt 64 (63 : Int)).toNat : Int) = _
    rw [BitVec.toNat_and, h1, h2, show (63 : Nat) = 2 ^ 6 - 1 by decide, Nat.and_two_pow_sub_one_eq_mod, Nat.mod_eq_of_lt (by omega)]
    exact wrap_small _ (by omega) (by omega)
  have hKz : ((2 : Int) ^ s) = (K : Int) := by rw [← hK]; push_cast; rfl
  have hK1 : 256 ≤ K := by rw [← hK]; exact Nat.le_trans (by decide) (Nat.pow_le_pow_right (by decide) hs.1 : 2 ^ 8 ≤ 2 ^ s)
  have hK2 : K ≤ 9223372036854775808 := by rw [← hK]; exact Nat.le_trans (Nat.pow_le_pow_right (by decide) hs.2 : 2 ^ s ≤ 2 ^ 63) (by decide)
  have hAb : A < 18446744073709551616 := by
    rw [← hA, Nat.div_lt_iff_lt_mul (by decide)]
    exact Nat.mul_lt_mul'' hx hH
  have hCb : C < 18446744073709551616 := by rw [← hC]; exact Nat.mod_lt _ (by decide)
  obtain ⟨Q, hQ⟩ : ∃ Q, A / K = Q := ⟨_, rfl⟩
  have hQb : Q < 72057594037927936 := by
    rw [← hQ]
    have : A / K ≤ A / 256 := Nat.div_le_div_left hK1 (by decide)
    omega
  have hdiv : (A : Int) / (K : Int) = (Q : Int) := by rw [← hQ]; exact (Int.natCast_ediv A K).symm
  have hQK : Q * K ≤ A := by rw [← hQ]; exact Nat.div_mul_le_self A K
  have hmulw : IntKind.u64.wrap ((Q : Int) * (K : Int)) = ((Q * K : Nat) : Int) := u64_of (by rw [Int.natCast_mul]) (by omega)
  have hsz : (s : Int) ≤ 63 := by omega
  have hcall : ∀ W, Calls Tryd.prog 54 #[.int .u64 (x : Int), .int .u64 (H : Int)] W fun e w' => e = .returned (.tuple #[.int .u64 (A : Int), .int .u64 (C : Int)]) ∧ w' = W := fun W => mul_c x H hx hH A C hA hC W
  obtain ⟨E, hE⟩ : ∃ E, x * L / 18446744073709551616 = E := ⟨_, rfl⟩
  obtain ⟨F, hF⟩ : ∃ F, x * L % 18446744073709551616 = F := ⟨_, rfl⟩
  have hEb : E < 18446744073709551616 := by
    rw [← hE, Nat.div_lt_iff_lt_mul (by decide)]
    exact Nat.mul_lt_mul'' hx hL
  have hcall2 : ∀ W, Calls Tryd.prog 54 #[.int .u64 (x : Int), .int .u64 (L : Int)] W fun e w' => e = .returned (.tuple #[.int .u64 (E : Int), .int .u64 (F : Int)]) ∧ w' = W := fun W => mul_c x L hx hL E F hE hF W
  have hs2 := hs.2
  by_cases hne : Q * K = A
  · have hneb : (((Q * K : Nat) : Int) == (A : Int)) = true := by rw [beq_iff_eq]; omega
    obtain ⟨cl, hcl⟩ : ∃ cl : Bool, decide (C < E) = cl := ⟨_, rfl⟩
    obtain ⟨g, hg⟩ : ∃ g : Nat, (if cl = true then 1 else 0 : Nat) = g := ⟨_, rfl⟩
    have hg1 : g ≤ 1 := by rw [← hg]; split <;> decide
    obtain ⟨A2, hA2⟩ : ∃ A2 : Nat, (A + (18446744073709551616 - g)) % 18446744073709551616 = A2 := ⟨_, rfl⟩
    have hsub : IntKind.u64.wrap ((A : Int) - (g : Int)) = (A2 : Int) := by rw [IntKind.wrap_u64]; omega
    have hA2b : A2 < 18446744073709551616 := by omega
    obtain ⟨Q2, hQ2⟩ : ∃ Q2, A2 / K = Q2 := ⟨_, rfl⟩
    have hQ2b : Q2 < 72057594037927936 := by
      rw [← hQ2]
      have : A2 / K ≤ A2 / 256 := Nat.div_le_div_left hK1 (by decide)
      omega
    have hdiv2 : (A2 : Int) / (K : Int) = (Q2 : Int) := by rw [← hQ2]; exact (Int.natCast_ediv A2 K).symm
    obtain ⟨df, hdf⟩ : ∃ df : Nat, (C + (18446744073709551616 - E)) % 18446744073709551616 = df := ⟨_, rfl⟩
    have hdfw : IntKind.u64.wrap ((C : Int) - (E : Int)) = (df : Int) := by rw [IntKind.wrap_u64]; omega
    obtain ⟨cm, hcm⟩ : ∃ cm : Bool, decide (1 < df) = cm := ⟨_, rfl⟩
    have hcmz : decide ((1 : Int) < (df : Int)) = cm := by
      rw [← hcm]
      by_cases h : 1 < df
      · rw [decide_eq_true h, decide_eq_true (by omega)]
      · rw [decide_eq_false h, decide_eq_false (by omega)]
    obtain ⟨g2, hg2⟩ : ∃ g2 : Nat, (if cm = true then 1 else 0 : Nat) = g2 := ⟨_, rfl⟩
    have hg21 : g2 ≤ 1 := by rw [← hg2]; split <;> decide
    obtain ⟨u, hu⟩ : ∃ u : Nat, Q2 ||| g2 = u := ⟨_, rfl⟩
    have hor : bits .or .u64 (Q2 : Int) (g2 : Int) = (u : Int) := by
      have := bits_or_u64_nat Q2 g2 (by omega) (by omega)
      rw [hu] at this
      exact this
    have hb1 : ∀ W, Calls Tryd.prog 32 #[.bool cl] W fun e w' => e = .returned (.int .u64 (g : Int)) ∧ w' = W := fun W => by rw [← hg]; exact b2_walk cl W
    have hb2 : ∀ W, Calls Tryd.prog 32 #[.bool cm] W fun e w' => e = .returned (.int .u64 (g2 : Int)) ∧ w' = W := fun W => by rw [← hg2]; exact b2_walk cm W
    refine ⟨u, ?_, fun b w hp => ?_⟩
    · rw [← hu]
      have h1 : g2 < 2 ^ 56 := by omega
      have h2 : Q2 < 2 ^ 56 := by omega
      have := Nat.or_lt_two_pow h2 h1
      omega
    · have c0 : w.cell? ⟨b, 0, none⟩ = some (.int .u64 (H : Int)) := hp.c w 0
      have c1 : w.cell? ⟨b, 1, none⟩ = some (.int .u64 (L : Int)) := hp.c w 1
      have c2 : w.cell? ⟨b, 2, none⟩ = some (.int .i64 (s : Int)) := hp.c w 2
      clear hA hC hK hQ hp hu hs hQK hne hE hF hg hA2 hQ2 hdf hg2 hx hH hL hAb hCb hQb hEb hA2b hQ2b hg1 hg21
      go_enter Tryd.func45, Tryd.ntmps45
      go_wp2_with fail
      go_at_call 54
      refine (hcall _).mono ?_
      rintro e w' ⟨rfl, hw⟩
      rw [hw]
      go_wp2_with fail
      go_at_call 54
      refine (hcall2 _).mono ?_
      rintro e w' ⟨rfl, hw⟩
      rw [hw]
      go_wp2_with fail
      go_at_call 32
      try rw [hcl]
      refine (hb1 _).mono ?_
      rintro e w' ⟨rfl, hw⟩
      rw [hw]
      go_wp2_with fail
      go_quiet ((go_at_call 32; first | exact Calls.quiet_of_same (hb2 _) | (rw [hcmz]; exact Calls.quiet_of_same (hb2 _))))
      go_wp2
      go_ret
      exact ⟨rfl, _, rfl⟩
  · have hneb : (((Q * K : Nat) : Int) == (A : Int)) = false := by rw [beq_eq_false_iff_ne]; omega
    obtain ⟨u, hu⟩ : ∃ u : Nat, Q ||| 1 = u := ⟨_, rfl⟩
    have hor : bits .or .u64 (Q : Int) 1 = (u : Int) := by
      have := bits_or_u64_nat Q 1 (by omega) (by decide)
      rw [hu] at this
      exact this
    refine ⟨u, ?_, fun b w hp => ?_⟩
    · rw [← hu]
      have h1 : (1 : Nat) < 2 ^ 56 := by decide
      have h2 : Q < 2 ^ 56 := by omega
      have := Nat.or_lt_two_pow h2 h1
      omega
    · have c0 : w.cell? ⟨b, 0, none⟩ = some (.int .u64 (H : Int)) := hp.c w 0
      have c1 : w.cell? ⟨b, 1, none⟩ = some (.int .u64 (L : Int)) := hp.c w 1
      have c2 : w.cell? ⟨b, 2, none⟩ = some (.int .i64 (s : Int)) := hp.c w 2
      clear hA hC hK hQ hp hu hs hQK hne hE hF hcall2 hx hH hL hAb hCb hQb hEb
      go_enter Tryd.func45, Tryd.ntmps45
      go_wp2_with fail
      go_at_call 54
      refine (hcall _).mono ?_
      rintro e w' ⟨rfl, hw⟩
      rw [hw]
      go_wp2_with fail
      go_ret
      exact ⟨rfl, 0, rfl⟩
end Go.Proofs.Qxb6608627aDoor
