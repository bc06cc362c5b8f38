import Derived.Test.Qxb6608627aDoorRight
namespace Go.Proofs.Qxb6608627aDoor
open Go.RowKit

set_option maxRecDepth 100000 in
set_option maxHeartbeats 1000000 in
theorem pow_walk (k : Nat) (hk : k ≤ 15) (P : Nat) (hP : Hid (10 ^ k = P)) (w : World) : Calls Tryd.prog 8 #[.int .i64 (k : Int)] w fun e w' => e = .returned (.int .u64 (P : Int)) ∧ w' = w := by
  go_enter Tryd.func8, Tryd.ntmps8
  go_wp2_with fail
  go_loopg [3, 4] (k + 1) (fun gf v3 v4 wr => ∃ (i p : Nat), i ≤ k ∧ v3 = .int .u64 (p : Int) ∧ v4 = .int .i64 (i : Int) ∧ Hid (p = 10 ^ i) ∧ Hid (wr = w) ∧ k < gf + i)
  case atStart => exact ⟨0, 1, Nat.zero_le _, rfl, rfl, rfl, rfl, by omega⟩
  case round =>
    obtain ⟨i, p, hi, rfl, rfl, HP, HW, hg⟩ := hrel
    by_cases hlt : i < k
    · have hz : (i : Int) < (k : Int) := by omega
      have hpb : p ≤ 100000000000000 := by
        rw [HP.out]
        exact Nat.le_trans (Nat.pow_le_pow_right (by decide) (by omega : i ≤ 14)) (by decide)
      have w1 : IntKind.u64.wrap ((p : Int) * 10) = (p : Int) * 10 := u64_id (by omega) (by omega)
      have HP' : Hid (p * 10 = 10 ^ (i + 1)) := by show _ = _; rw [HP.out, Nat.pow_succ]
      clear HP hP
      go_wp2_with fail
      go_roundg (gk - 1)
      case measure => omega
      case rel => exact ⟨i + 1, p * 10, by omega, by go_num, by go_num, HP', HW, by omega⟩
    · have hz : ¬ (i : Int) < (k : Int) := by omega
      have HE : Hid (p = P) := by show _ = _; rw [HP.out, ← hP.out]; congr 1; omega
      clear HP hP
      go_wp2_with fail
      go_ret
      exact ⟨by rw [← HE.out]; rfl, HW.out⟩
/-- a slice of bytes that holds l -/
structure Sl (w : World) (A : Option Addr) (l : List Nat) : Prop where
  ex : l = [] ∨ ∃ b off : Nat, A = some ⟨b, off, none⟩ ∧ ∀ (i x : Nat), l[i]? = some x → w.cell? ⟨b, off + i, none⟩ = some (.int .u8 (x : Int))
  byte : ∀ x ∈ l, x < 256

set_option maxRecDepth 100000 in
set_option maxHeartbeats 1000000 in
theorem alld_walk (A : Option Addr) (l : List Nat) (cap : Nat) (hl : l.length ≤ 4194304) (w : World) (h : Sl w A l) (Bo : Bool) (hB : Hid (l.all (fun x => decide (48 ≤ x) && decide (x ≤ 57)) = Bo)) :
    Calls Tryd.prog 5 #[.slice A l.length cap] w fun e w' => e = .returned (.bool Bo) ∧ w' = w := by
  obtain ⟨n, hn⟩ : ∃ n, l.length = n := ⟨_, rfl⟩
  rw [hn] at hl ⊢
  go_enter Tryd.func5, Tryd.ntmps5
  go_wp2_with fail
  go_loopg [3] (n + 1) (fun gf v3 wr => ∃ i : Nat, i ≤ n ∧ v3 = .int .i64 (i : Int) ∧ Hid ((l.drop i).all (fun x => decide (48 ≤ x) && decide (x ≤ 57)) = Bo) ∧ Hid (wr = w) ∧ n < gf + i)
  case atStart => exact ⟨0, Nat.zero_le _, rfl, by rw [List.drop_zero]; exact hB, rfl, by omega⟩
  case round =>
    obtain ⟨i, hi, rfl, HA, HW, hg⟩ := hrel
    clear hB
    by_cases hlt : i < n
    · have hz : (i : Int) < (n : Int) := by omega
      obtain ⟨x, hx⟩ : ∃ x, l[i]? = some x := ⟨l[i]'(by omega), List.getElem?_eq_getElem (by omega)⟩
      have hdrop : l.drop i = x :: l.drop (i + 1) := by
        have h' : i < l.length := by omega
        rw [List.drop_eq_getElem_cons h']
        congr 1
        rw [List.getElem?_eq_getElem h'] at hx
        exact Option.some.inj hx
      rcases h.ex with he | ⟨b, off, rfl, hc⟩
      · rw [he] at hx; simp at hx
      · have hcell : wr.cell? ⟨b, off + i, none⟩ = some (.int .u8 (x : Int)) := by rw [HW.out]; exact hc i x hx
        have HA1 := HA.out
        rw [hdrop, List.all_cons] at HA1
        clear hc
        by_cases h48 : x < 48
        · have h48z : (x : Int) < 48 := by omega
          have HE : Hid (Bo = false) := by show _ = _; rw [← HA1, decide_eq_false (by omega : ¬ 48 ≤ x)]; rfl
          clear HA HA1
          go_wp2_with fail
          go_ret
          exact ⟨by rw [HE.out]; rfl, HW.out⟩
        · have h48b : decide ((x : Int) < 48) = false := decide_eq_false (by omega)
          by_cases h57 : 57 < x
          · have h57z : (57 : Int) < (x : Int) := by omega
            have HE : Hid (Bo = false) := by show _ = _; rw [← HA1, decide_eq_false (by omega : ¬ x ≤ 57)]; simp
            clear HA HA1
            go_wp2_with fail
            go_ret
            exact ⟨by rw [HE.out]; rfl, HW.out⟩
          · have h57b : decide ((57 : Int) < (x : Int)) = false := decide_eq_false (by omega)
            have HA' : Hid ((l.drop (i + 1)).all (fun x => decide (48 ≤ x) && decide (x ≤ 57)) = Bo) := by
              show _ = _
              rw [← HA1, decide_eq_true (by omega : 48 ≤ x), decide_eq_true (by omega : x ≤ 57)]; simp
            clear HA HA1
            go_wp2_with fail
            go_roundg (gk - 1)
            case measure => omega
            case rel => exact ⟨i + 1, by omega, by go_num, HA', HW, by omega⟩
    · have hz : ¬ (i : Int) < (n : Int) := by omega
      have HE : Hid (Bo = true) := by show _ = _; rw [← HA.out, List.drop_of_length_le (by omega)]; rfl
      clear HA
      go_wp2_with fail
      go_ret
      exact ⟨by rw [HE.out]; rfl, HW.out⟩
/-- zzDigitsValue: at most 19 digits -/
def dv (l : List Nat) (v : Nat) : Nat := l.foldl (fun v x => v * 10 + (x - 48)) v
set_option maxRecDepth 100000 in
set_option maxHeartbeats 1000000 in
theorem dv_walk (A : Option Addr) (l : List Nat) (cap : Nat) (hl : l.length ≤ 18) (hd : Hid (∀ x ∈ l, 48 ≤ x ∧ x ≤ 57)) (w : World) (h : Sl w A l) (V : Nat) (hV : Hid (dv l 0 = V)) :
    Calls Tryd.prog 7 #[.slice A l.length cap] w fun e w' => e = .returned (.int .u64 (V : Int)) ∧ w' = w := by
  obtain ⟨n, hn⟩ : ∃ n, l.length = n := ⟨_, rfl⟩
  rw [hn] at hl ⊢
  go_enter Tryd.func7, Tryd.ntmps7
  go_wp2_with fail
  go_loopg [3, 4] (n + 1) (fun gf v3 v4 wr => ∃ i v : Nat, i ≤ n ∧ v3 = .int .u64 (v : Int) ∧ v4 = .int .i64 (i : Int) ∧ Hid (v < 10 ^ i) ∧ Hid (dv (l.drop i) v = V) ∧ Hid (wr = w) ∧ n < gf + i)
  case atStart => exact ⟨0, 0, Nat.zero_le _, rfl, rfl, (by show _ < _; decide), by rw [List.drop_zero]; exact hV, rfl, by omega⟩
  case round =>
    obtain ⟨i, v, hi, rfl, rfl, HB, HA, HW, hg⟩ := hrel
    clear hV
    by_cases hlt : i < n
    · have hz : (i : Int) < (n : Int) := by omega
      obtain ⟨x, hx⟩ : ∃ x, l[i]? = some x := ⟨l[i]'(by omega), List.getElem?_eq_getElem (by omega)⟩
      have hdrop : l.drop i = x :: l.drop (i + 1) := by
        have h' : i < l.length := by omega
        rw [List.drop_eq_getElem_cons h']
        congr 1
        rw [List.getElem?_eq_getElem h'] at hx
        exact Option.some.inj hx
      have hx48 : 48 ≤ x ∧ x ≤ 57 := hd.out x (List.mem_of_getElem? hx)
      rcases h.ex with he | ⟨b, off, rfl, hc⟩
      · rw [he] at hx; simp at hx
      · have hcell : wr.cell? ⟨b, off + i, none⟩ = some (.int .u8 (x : Int)) := by rw [HW.out]; exact hc i x hx
        have HA1 := HA.out
        rw [hdrop] at HA1
        have hvb : v < 1000000000000000000 := by
          have h1 := HB.out
          have h2 : 10 ^ i ≤ 10 ^ 18 := Nat.pow_le_pow_right (by decide) (by omega)
          have h3 : (10 : Nat) ^ 18 = 1000000000000000000 := by decide
          omega
        obtain ⟨g, hge⟩ : ∃ g, x - 48 = g := ⟨_, rfl⟩
        obtain ⟨X, hX⟩ : ∃ X, v * 10 + g = X := ⟨_, rfl⟩
        have HX : Hid (dv (l.drop (i + 1)) X = V) := by
          show _ = _
          rw [← HA1, ← hX, ← hge]; rfl
        have HB' : Hid (X < 10 ^ (i + 1)) := by have := HB.out; show _ < _; rw [Nat.pow_succ]; omega
        have w1 : IntKind.u64.wrap ((v : Int) * 10) = (v : Int) * 10 := u64_id (by omega) (by omega)
        have w2 : IntKind.u8.wrap ((x : Int) - 48) = (g : Int) := u8_of (by omega) (by omega)
        have w3 : IntKind.u64.wrap (g : Int) = (g : Int) := u64_id (by omega) (by omega)
        have w4 : IntKind.u64.wrap ((v : Int) * 10 + (g : Int)) = (X : Int) := u64_of (by omega) (by omega)
        clear hc HA HA1 HB hX hge hd hdrop hx
        go_wp2_with fail
        go_roundg (gk - 1)
        case measure => omega
        case rel => exact ⟨i + 1, X, by omega, rfl, by go_num, HB', HX, HW, by omega⟩
    · have hz : ¬ (i : Int) < (n : Int) := by omega
      have HE : Hid (v = V) := by show _ = _; rw [← HA.out, List.drop_of_length_le (by omega)]; rfl
      clear HA HB
      go_wp2_with fail
      go_ret
      exact ⟨by rw [← HE.out]; rfl, HW.out⟩
end Go.Proofs.Qxb6608627aDoor
