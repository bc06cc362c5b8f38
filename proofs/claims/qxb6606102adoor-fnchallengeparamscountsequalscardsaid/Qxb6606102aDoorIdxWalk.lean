import Derived.Test.Qxb6606102aDoorShelf
import Derived.WalkKit
import Derived.WalkSpells
import Derived.WalkLawsBesides
import Derived.WalkMore
import Derived.Deep.LoopGhost
import Derived.Lib.OthersKept
import Derived.Laws.Runes
import Derived.RegionTactic
import Derived.Shelf.Small.Utf8
import Derived.Shelf.Small.Strs
import Derived.Deep.QuietTactic
import Derived.BigQuiet
import Derived.Handy
namespace Go.Proofs.Qxb6606102aDoor
open Go.RowKit

theorem validRune_c (R : Int) (w : World) (hv : Utf8.valid R = true) :
    Calls Tryd.prog 72 #[.int .i32 R] w fun e w' => e = .returned (.bool true) ∧ w' = w := by
  have h := Any.utf8_ValidRune (P := Tryd.prog) (ρ := Tryd.lays153_ren) { Tryd.lays153 with } R w
  have e : Lib.validRune R = true := by rw [← hv, Bool.eq_iff_iff]; simp [Lib.validRune, Utf8.valid]; omega
  rw [e] at h
  exact h

theorem validRune_n (R : Int) (w : World) (hv : Utf8.valid R = false) :
    Calls Tryd.prog 72 #[.int .i32 R] w fun e w' => e = .returned (.bool false) ∧ w' = w := by
  have h := Any.utf8_ValidRune (P := Tryd.prog) (ρ := Tryd.lays153_ren) { Tryd.lays153 with } R w
  have e : Lib.validRune R = false := by rw [← hv, Bool.eq_iff_iff]; simp [Lib.validRune, Utf8.valid]; omega
  rw [e] at h
  exact h

set_option maxRecDepth 1000000 in
set_option maxHeartbeats 1000000 in
theorem idxRune_bad (R : Int) (w : World) (h128 : 128 ≤ R) (hhi : R ≤ 1114111) (hv : Utf8.valid R = false) (hne : (R == 65533) = false) :
    Calls Tryd.prog 52 #[.string ⟨#[32, 9, 44]⟩, .int .i32 R] w fun e w' => e = .returned (.int .i64 (-1)) ∧ Below w.heap.size w w' := by
  have h1 : ¬ R < 128 := by omega
  have h2 : (0 : Int) ≤ R := by omega
  go_enter Tryd.func52, Tryd.ntmps52
  go_wp2_with (go_at_call 72; refine (validRune_n R w hv).mono ?_; rintro e w' ⟨rfl, hw⟩; rw [hw])
  try rw [Exit.noGoto_ret]
  go_ret
  exact ⟨rfl, Below.refl _ _⟩

theorem idxByte_no : ∀ (l : List UInt8) (C : Int), (∀ b ∈ l, b.toNat < 128) → 128 ≤ C → C ≤ 255 → Lib.indexByte l C.toNat.toUInt8 = -1
  | [], _, _, _, _ => rfl
  | b :: l, C, hl, h1, h2 => by
    have hb := hl b (by simp)
    have ih := idxByte_no l C (fun x hx => hl x (by simp [hx])) h1 h2
    have hne : (b == C.toNat.toUInt8) = false := by
      rw [beq_eq_false_iff_ne]
      intro e
      rw [e] at hb
      simp at hb
      omega
    rw [Lib.indexByte, hne, ih]
    rfl

theorem idxByte_c (s : ByteArray) (C : Int) (w : World) (hl : ∀ b ∈ s.data.toList, b.toNat < 128) (h1 : 128 ≤ C) (h2 : C ≤ 255) :
    Calls Tryd.prog 71 #[.string s, .int .u8 C] w fun e w' => e = .returned (.int .i64 (-1)) ∧ w' = w := by
  have h := Any.strings_IndexByte (P := Tryd.prog) (ρ := Tryd.lays153_ren) { Tryd.lays153 with } s C w
  rw [idxByte_no _ C hl h1 h2] at h
  exact h

theorem cs_ascii : ∀ b ∈ (⟨#[32, 9, 44]⟩ : ByteArray).data.toList, b.toNat < 128 := by decide
theorem cs_cut (a e : Nat) : ∀ b ∈ ((⟨#[32, 9, 44]⟩ : ByteArray).extract a e).data.toList, b.toNat < 128 := fun b hb => cs_ascii b (mem_extract hb)

set_option maxRecDepth 1000000 in
set_option maxHeartbeats 1000000 in
theorem idxRune_hi4 (R : Int) (rs : ByteArray) (w : World) (h128 : 128 ≤ R) (hhi : R ≤ 1114111) (hv : Utf8.valid R = true) (hne : (R == 65533) = false) (hrs : Utf8.encode R = rs) (hm : rs.size = 4) :
    Calls Tryd.prog 52 #[.string ⟨#[32, 9, 44]⟩, .int .i32 R] w fun e w' => e = .returned (.int .i64 (-1)) ∧ Below w.heap.size w w' := by
  have h1 : ¬ R < 128 := by omega
  have h2 : (0 : Int) ≤ R := by omega
  go_enter Tryd.func52, Tryd.ntmps52
  go_wp2_with (go_at_call 72; refine (validRune_c R w hv).mono ?_; rintro e w' ⟨rfl, hw⟩; rw [hw])
  go_step3
  go_wp2_with fail
  refine wp_loop_rounds 1 ?_
  rw [rounds_succ]
  go_wp2
  try rw [Exit.noGoto_ret]
  go_ret
  exact ⟨rfl, Below.refl _ _⟩

set_option maxRecDepth 1000000 in
set_option maxHeartbeats 1000000 in
theorem idxRune_hi3 (R : Int) (rs : ByteArray) (C : Int) (w : World) (h128 : 128 ≤ R) (hhi : R ≤ 1114111) (hv : Utf8.valid R = true) (hne : (R == 65533) = false) (hrs : Utf8.encode R = rs) (hm : rs.size = 3)
    (hix : ∀ W, (Instr.index 9 (.string rs) (.int .i64 2)).run Tryd.prog W = .ok (.int .u8 C) W) (hC : 128 ≤ C) (hC2 : C ≤ 255) :
    Calls Tryd.prog 52 #[.string ⟨#[32, 9, 44]⟩, .int .i32 R] w fun e w' => e = .returned (.int .i64 (-1)) ∧ Below w.heap.size w w' := by
  have h1 : ¬ R < 128 := by omega
  have h2 : (0 : Int) ≤ R := by omega
  have h3 : ((44 : Int) != C) = true := by rw [bne_iff_ne]; omega
  have hi2 : ∀ W, (Instr.index 9 (.string ⟨#[32, 9, 44]⟩) (.int .i64 2)).run Tryd.prog W = .ok (.int .u8 44) W := fun W => by kernel_rfl
  have hw3 : IntKind.i64.wrap 3 = 3 := by decide
  obtain ⟨X, hX, hsl⟩ : ∃ X : ByteArray, (∀ b ∈ X.data.toList, b.toNat < 128) ∧ ∀ W, (Instr.slice 9 (.string ⟨#[32, 9, 44]⟩) (some (.int .i64 3)) none none).run Tryd.prog W = .ok (.string X) W :=
    ⟨(⟨#[32, 9, 44]⟩ : ByteArray).extract 3 3, cs_cut _ _, fun W => by rw [run_slice_string_from_if W 9 _ .i64 _ Tryd.underlying9, if_pos (by decide)]; rfl⟩
  go_enter Tryd.func52, Tryd.ntmps52
  go_wp2_with (go_at_call 72; refine (validRune_c R w hv).mono ?_; rintro e w' ⟨rfl, hw⟩; rw [hw])
  go_step3
  go_wp2_with fail
  refine wp_loop_rounds 1 ?_
  rw [rounds_succ]
  go_wp2_with fail
  go_step3
  go_wp2_with fail
  go_quiet (fail)
  go_wp2_with fail
  go_quiet ((go_at_call 71; refine (idxByte_c _ _ _ hX hC hC2).mono ?_; rintro e w' ⟨he, hw⟩; exact ⟨he, _, hw⟩))
  go_wp2
  rw [Exit.noGoto_ret]
  go_wp2
  rw [Exit.noGoto_ret]
  go_ret
  exact ⟨rfl, rfl, rfl, rfl, Nat.le_refl _, fun _ _ => rfl⟩

set_option maxRecDepth 1000000 in
set_option maxHeartbeats 1000000 in
theorem idxRune_hi2 (R : Int) (rs : ByteArray) (C : Int) (w : World) (h128 : 128 ≤ R) (hhi : R ≤ 1114111) (hv : Utf8.valid R = true) (hne : (R == 65533) = false) (hrs : Utf8.encode R = rs) (hm : rs.size = 2)
    (hix : ∀ W, (Instr.index 9 (.string rs) (.int .i64 1)).run Tryd.prog W = .ok (.int .u8 C) W) (hC : 128 ≤ C) (hC2 : C ≤ 255) :
    Calls Tryd.prog 52 #[.string ⟨#[32, 9, 44]⟩, .int .i32 R] w fun e w' => e = .returned (.int .i64 (-1)) ∧ Below w.heap.size w w' := by
  have h1 : ¬ R < 128 := by omega
  have h2 : (0 : Int) ≤ R := by omega
  have h3 : ((9 : Int) != C) = true := by rw [bne_iff_ne]; omega
  have hi2 : ∀ W, (Instr.index 9 (.string ⟨#[32, 9, 44]⟩) (.int .i64 1)).run Tryd.prog W = .ok (.int .u8 9) W := fun W => by kernel_rfl
  have hw3 : IntKind.i64.wrap 2 = 2 := by decide
  obtain ⟨X, hX, hsl⟩ : ∃ X : ByteArray, (∀ b ∈ X.data.toList, b.toNat < 128) ∧ ∀ W, (Instr.slice 9 (.string ⟨#[32, 9, 44]⟩) (some (.int .i64 2)) none none).run Tryd.prog W = .ok (.string X) W :=
    ⟨(⟨#[32, 9, 44]⟩ : ByteArray).extract 2 3, cs_cut _ _, fun W => by rw [run_slice_string_from_if W 9 _ .i64 _ Tryd.underlying9, if_pos (by decide)]; rfl⟩
  go_enter Tryd.func52, Tryd.ntmps52
  go_wp2_with (go_at_call 72; refine (validRune_c R w hv).mono ?_; rintro e w' ⟨rfl, hw⟩; rw [hw])
  go_step3
  go_wp2_with fail
  refine wp_loop_rounds 1 ?_
  rw [rounds_succ]
  go_wp2_with fail
  go_step3
  go_wp2_with fail
  go_quiet (fail)
  go_wp2_with fail
  go_quiet ((go_at_call 71; refine (idxByte_c _ _ _ hX hC hC2).mono ?_; rintro e w' ⟨he, hw⟩; exact ⟨he, _, hw⟩))
  go_wp2
  rw [Exit.noGoto_ret]
  go_wp2
  rw [Exit.noGoto_ret]
  go_ret
  exact ⟨rfl, rfl, rfl, rfl, Nat.le_refl _, fun _ _ => rfl⟩

set_option maxRecDepth 1000000 in
set_option maxHeartbeats 1000000 in
theorem idxRune_err (s : ByteArray) (w : World) (ha : ∀ b ∈ s.data.toList, b.toNat < 128) :
    Calls Tryd.prog 52 #[.string s, .int .i32 65533] w fun e w' => e = .returned (.int .i64 (-1)) ∧ Below w.heap.size w w' := by
  have HA : Aside (∀ b ∈ s.data.toList, b.toNat < 128) := ha
  clear ha
  go_enter Tryd.func52, Tryd.ntmps52
  go_wp2_with fail
  go_loopg [5, 6] s.size (fun g _ _ wx => ∃ i : Nat, i + g = s.size ∧ wx = w.iter s i)
  case atStart => exact ⟨0, by omega, rfl⟩
  case round =>
    obtain ⟨i, hig, rfl⟩ := hrel
    cases gk with
    | zero =>
      obtain rfl : i = s.size := by omega
      have hnx := run_next_end (P := Tryd.prog) w s s.size
      go_wp2
      go_ret
      exact ⟨rfl, (Below.refl _ _).alloc (Nat.le_refl _) _⟩
    | succ g =>
      have hi : i < s.size := by omega
      obtain ⟨x, hx⟩ : ∃ x : UInt8, s[i]'hi = x := ⟨_, rfl⟩
      have hxl : s.data.toList[i]? = some x := by rw [← hx]; exact Lib.data_getElem? s i hi
      have hx128 : x.toNat < 128 := HA.out x (List.mem_of_getElem? hxl)
      have hnx := fun ty => run_next_ascii (P := Tryd.prog) w s i ty hi (by rw [hx]; exact hx128)
      rw [hx] at hnx
      have hxe : ((x.toNat : Int) == 65533) = false := by rw [beq_eq_false_iff_ne]; omega
      clear hxl hx
      go_wp2
      go_roundg g
      case measure => omega
      case rel => exact ⟨i + 1, by omega, rfl⟩

/-- strings.IndexRune of a rune that a decode has given, in the three bytes. -/
theorem idxRune_any (R : Nat) (w : World) (hR : R ≤ 1114111) :
    Calls Tryd.prog 52 #[.string ⟨#[32, 9, 44]⟩, .int .i32 (R : Int)] w fun e w' => ∃ k : Int, e = .returned (.int .i64 k) ∧ Below w.heap.size w w' := by
  by_cases h128 : R < 128
  · exact (Any.strings_IndexRune_ascii (P := Tryd.prog) (ρ := Tryd.lays153_ren) { Tryd.lays153 with } ⟨#[32, 9, 44]⟩ (R : Int) w (by omega) (by omega)).mono fun e w' ⟨he, hw⟩ => ⟨_, he, hw ▸ Below.refl _ _⟩
  by_cases he : R = 65533
  · subst he
    exact (idxRune_err ⟨#[32, 9, 44]⟩ w cs_ascii).mono fun e w' ⟨he, hb⟩ => ⟨_, he, hb⟩
  have hne : ((R : Int) == 65533) = false := by rw [beq_eq_false_iff_ne]; omega
  cases hv : Utf8.valid (R : Int) with
  | false => exact (idxRune_bad (R : Int) w (by omega) (by omega) hv hne).mono fun e w' ⟨he, hb⟩ => ⟨_, he, hb⟩
  | true =>
    have hf := encode_facts (R : Int) hv (by omega)
    obtain ⟨rs, hrs⟩ : ∃ rs, Utf8.encode (R : Int) = rs := ⟨_, rfl⟩
    rw [hrs] at hf
    obtain ⟨hf1, hf2, hf3⟩ := hf
    have hlt : rs.size - 1 < rs.size := by omega
    have hC := hf3 hlt
    have hC2 := UInt8.toNat_lt (rs[rs.size - 1]'hlt)
    clear hf3
    have hix : ∀ (n : Int) (W : World), (rs.size : Int) = n + 1 → (Instr.index 9 (.string rs) (.int .i64 n)).run Tryd.prog W = .ok (.int .u8 ((rs[rs.size - 1]'hlt).toNat : Int)) W := fun n W hn => by
      rw [run_index_string W 9 _ .i64 _ Tryd.underlying9, dif_pos ⟨by omega, by omega⟩]
      have e : n.toNat = rs.size - 1 := by omega
      simp only [e]
    rcases (show rs.size = 2 ∨ rs.size = 3 ∨ rs.size = 4 by omega) with h | h | h
    · exact (idxRune_hi2 (R : Int) rs _ w (by omega) (by omega) hv hne hrs h (fun W => hix 1 W (by omega)) (by omega) (by omega)).mono fun e w' ⟨he, hb⟩ => ⟨_, he, hb⟩
    · exact (idxRune_hi3 (R : Int) rs _ w (by omega) (by omega) hv hne hrs h (fun W => hix 2 W (by omega)) (by omega) (by omega)).mono fun e w' ⟨he, hb⟩ => ⟨_, he, hb⟩
    · exact (idxRune_hi4 (R : Int) rs w (by omega) (by omega) hv hne hrs h).mono fun e w' ⟨he, hb⟩ => ⟨_, he, hb⟩

set_option maxRecDepth 1000000 in
set_option maxHeartbeats 1000000 in
theorem indexAny_short (s : ByteArray) (w : World) (h8 : s.size ≤ 8) :
    Calls Tryd.prog 35 #[.string s, .string ⟨#[32, 9, 44]⟩] w fun e w' => ∃ k : Int, e = .returned (.int .i64 k) ∧ -1 ≤ k ∧ k ≤ s.size ∧ Below w.heap.size w w' := by
  have h8z : decide ((8 : Int) < (s.size : Int)) = false := decide_eq_false (by omega)
  have c53 : ∀ (n : Int) (w : World), Calls Tryd.prog 53 #[.int .i64 n] w fun e w' => e = .returned (.bool (decide (8 < n))) ∧ w' = w := fun n w => Any.strings_shouldUseASCIISet (P := Tryd.prog) (ρ := Tryd.lays153_ren) { Tryd.lays153 with } n w
  have C53 : Hid (∀ (n : Int) (w : World), Calls Tryd.prog 53 #[.int .i64 n] w fun e w' => e = .returned (.bool (decide (8 < n))) ∧ w' = w) := c53
  clear c53
  go_enter Tryd.func35, Tryd.ntmps35
  go_wp2_with (go_at_call 53; refine (C53.out _ _).mono ?_; rintro e w' ⟨rfl, hw⟩; rw [hw, h8z])
  go_loopg [9, 10] s.size (fun g _ _ wx => ∃ pos : Nat, wx.heap[w.heap.size]? = some (.stringIter s pos) ∧ Below w.heap.size w wx ∧ s.size ≤ pos + g)
  case atStart => exact ⟨0, World.iter_heap w s 0, (Below.refl _ w).alloc (Nat.le_refl _) _, by omega⟩
  case round =>
    obtain ⟨pos, hit, hbw, hfu⟩ := hrel
    by_cases hps : pos < s.size
    · obtain ⟨g', rfl⟩ : ∃ g', gk = g' + 1 := ⟨gk - 1, by omega⟩
      have hnx : ∀ ty, (Instr.next (.pointer (some ⟨w.heap.size, 0, none⟩)) true ty).run Tryd.prog wr = _ := fun ty => Lib.run_next_any_at wr w.heap.size s pos ty hit hps
      have hwd := Lib.width_pos s pos
      obtain ⟨R, hR⟩ : ∃ R, (Utf8.decode s pos).1 = R := ⟨_, rfl⟩
      obtain ⟨K, hK⟩ : ∃ K, (Utf8.decode s pos).2 = K := ⟨_, rfl⟩
      have hRle : R ≤ 1114111 := by rw [← hR]; exact Lib.rune_le s pos
      rw [hR, hK] at hnx
      rw [hK] at hwd
      have hit2 := Lib.iterAt_heap wr w.heap.size s pos (pos + K) hit
      have hbw2 := Lib.below_iterAt hbw (k := w.heap.size) (Nat.le_refl _) s (pos + K)
      obtain ⟨W, hWd⟩ : ∃ W, wr.iterAt w.heap.size s (pos + K) = W := ⟨_, rfl⟩
      rw [hWd] at hnx hit2 hbw2
      have hltW : w.heap.size < W.heap.size := (Array.getElem?_eq_some_iff.1 hit2).1
      clear hR hK hWd hit hbw
      go_wp2_with (go_at_call 52; refine (idxRune_any R _ hRle).mono ?_; rintro e W' ⟨k, rfl, hbc⟩)
      · go_ret
        exact ⟨_, rfl, by omega, by omega, hbw2.trans (hbc.mono hbw2.size)⟩
      · go_roundg g'
        case measure => omega
        case rel => exact ⟨pos + K, (hbc.block _ hltW).trans hit2, hbw2.trans (hbc.mono hbw2.size), by omega⟩
    · have hnx : ∀ ty, (Instr.next (.pointer (some ⟨w.heap.size, 0, none⟩)) true ty).run Tryd.prog wr = _ := fun ty => Lib.run_next_end_at wr w.heap.size s pos ty hit hps
      go_wp2
      go_ret
      exact ⟨_, rfl, by omega, by omega, hbw⟩

theorem zero256 : (Tryd.prog.info? 48).map (fun i => (i.zero, i.size)) = some (some (.agg (Array.replicate 256 (.bool false))), 256) := by kernel_rfl

theorem indexAny_lt (cs : List UInt8) : ∀ l : List UInt8, Lib.indexAny l cs ≤ l.length
  | [] => by simp [Lib.indexAny]
  | b :: l => by
    have ih := indexAny_lt cs l
    unfold Lib.indexAny
    split
    · simp; omega
    · split
      · simp; omega
      · simp; omega

theorem indexAny_c (s : ByteArray) (w : World) (hs : s.size ≤ 16777216) :
    Calls Tryd.prog 35 #[.string s, .string ⟨#[32, 9, 44]⟩] w fun e w' => ∃ k : Int, e = .returned (.int .i64 k) ∧ -1 ≤ k ∧ k ≤ s.size ∧ Below w.heap.size w w' := by
  by_cases h8 : s.size ≤ 8
  · exact indexAny_short s w h8
  · refine (Any.strings_IndexAny_long (P := Tryd.prog) (ρ := Tryd.lays153_ren) Tryd.lays153 (zero_of_info zero256).1 (zero_of_info zero256).2 s ⟨#[32, 9, 44]⟩ w (by decide) (by omega) (by omega) (by decide) (ascii_of_all (by decide))).mono fun e w' ⟨he, hw⟩ => ⟨_, he, Lib.indexAny_ge _ _, ?_, ?_⟩
    · rw [Lib.size_eq]; exact indexAny_lt _ _
    · rw [hw]; exact ((Below.refl _ _).alloc (Nat.le_refl _) _).alloc (by simp) _
end Go.Proofs.Qxb6606102aDoor
