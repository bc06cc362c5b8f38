import Derived.Test.Qxb6614551aDoorNextPre
namespace Go.Proofs.Qxb6614551aDoor
open Go.RowKit

theorem u8ne {c : UInt8} {n : Nat} (h : ¬ c.toNat = n) {d : UInt8} (hd : d.toNat = n) : ¬ c = d := fun e => h (by rw [e]; exact hd)
theorem strN_end (q : UInt8) {S : ByteArray} {k : Nat} (h : ¬ k < S.size) : Pl.strN q (S.data.toList.drop k) = 0 := by
  rw [List.drop_of_length_le (by rw [← Lib.size_eq]; omega)]; rfl
theorem strN_nl (q : UInt8) {c : UInt8} (l : List UInt8) (h : c.toNat = 10) : Pl.strN q (c :: l) = 0 := by
  obtain rfl : c = 10 := UInt8.toNat_inj.1 h
  cases l <;> simp [Pl.strN]
theorem strN_esc (q : UInt8) {c e : UInt8} (l : List UInt8) (h : c.toNat = 92) (he : ¬ e.toNat = 10) : Pl.strN q (c :: e :: l) = 2 + Pl.strN q l := by
  obtain rfl : c = 92 := UInt8.toNat_inj.1 h
  rw [Pl.strN, if_neg (by decide), if_pos ⟨rfl, u8ne he (by rfl)⟩]
theorem strN_escnl (q : UInt8) {c e : UInt8} (l : List UInt8) (h : c.toNat = 92) (he : e.toNat = 10) (hq : ¬ q.toNat = 92) : Pl.strN q (c :: e :: l) = 1 + Pl.strN q (e :: l) := by
  obtain rfl : c = 92 := UInt8.toNat_inj.1 h
  obtain rfl : e = 10 := UInt8.toNat_inj.1 he
  rw [Pl.strN, if_neg (by decide), if_neg (by simp), if_neg (fun e => hq (by rw [← e]; rfl))]
theorem strN_last (q : UInt8) {c : UInt8} (h : ¬ c.toNat = 10) : Pl.strN q [c] = 1 := by
  rw [Pl.strN, if_neg (u8ne h (by rfl))]
theorem strN_q {c q : UInt8} (l : List UInt8) (h : ¬ c.toNat = 10) (h2 : ¬ c.toNat = 92) (hq : c.toNat = q.toNat) : Pl.strN q (c :: l) = 1 := by
  obtain rfl : c = q := UInt8.toNat_inj.1 hq
  cases l with
  | nil => exact strN_last _ h
  | cons d l => rw [Pl.strN, if_neg (u8ne h (by rfl)), if_neg (fun e => u8ne h2 (d := 92) (by rfl) e.1), if_pos rfl]
theorem strN_other {c q : UInt8} (l : List UInt8) (h : ¬ c.toNat = 10) (h2 : ¬ c.toNat = 92) (hq : ¬ c.toNat = q.toNat) : Pl.strN q (c :: l) = 1 + Pl.strN q l := by
  cases l with
  | nil => rw [strN_last _ h]; rfl
  | cons d l => rw [Pl.strN, if_neg (u8ne h (by rfl)), if_neg (fun e => u8ne h2 (d := 92) (by rfl) e.1), if_neg (fun e => hq (by rw [e]))]
theorem tok_str {c : UInt8} {S : ByteArray} {k : Nat} (hd : S.data.toList.drop k = c :: S.data.toList.drop (k + 1)) (h10 : ¬ c.toNat = 10) (hl : Pl.isLet c = false) (hg : Pl.isDig c = false) (hq : c.toNat = 39 ∨ c.toNat = 34) : Pl.tokN (S.data.toList.drop k) = (6, 1 + Pl.strN c (S.data.toList.drop (k + 1))) := by
  rw [hd, Pl.tokN, if_neg (not_nl h10), if_neg (by rw [hl]; exact Bool.false_ne_true), if_neg (by rw [hg]; exact Bool.false_ne_true), if_pos]
  rcases hq with h | h
  · exact Or.inl (UInt8.toNat_inj.1 h)
  · exact Or.inr (UInt8.toNat_inj.1 h)
theorem tok_pun {c : UInt8} {S : ByteArray} {k : Nat} (hd : S.data.toList.drop k = c :: S.data.toList.drop (k + 1)) (h10 : ¬ c.toNat = 10) (hl : Pl.isLet c = false) (hg : Pl.isDig c = false) (h39 : ¬ c.toNat = 39) (h34 : ¬ c.toNat = 34) : Pl.tokN (S.data.toList.drop k) = (4, Pl.width (S.data.toList.drop k)) := by
  rw [hd, Pl.tokN, if_neg (not_nl h10), if_neg (by rw [hl]; exact Bool.false_ne_true), if_neg (by rw [hg]; exact Bool.false_ne_true), if_neg]
  rintro (e | e)
  · exact h39 (by rw [e]; rfl)
  · exact h34 (by rw [e]; rfl)

/-- a region whose operations read old blocks and whose callees may grow the heap -/
structure Fam (w : World) where
  W : World
  h : Below w.heap.size w W
theorem wp_region_fam_lit {P : Program} {id : Nat} {Q : Exit → Act → World → Prop} {a : Act} {w : World} {l : List Oper} (hm : P.follows .mixedOrders = true) (hB : Region.lexB .any l.toArray = true)
    (h : wpQuiet P l.toArray (fun w' => ∃ x : Fam w, w' = x.W) (fun a' => ∀ w', (∃ x : Fam w, w' = x.W) → Q .normal a' w') l a) : (Code.region id l.toArray true).wp P Q a w :=
  wp_region_quiet (C := fun w' => ∃ x : Fam w, w' = x.W) hm hB ⟨⟨{ w with drawn := w.drawn + 1 }, ⟨rfl, rfl, rfl, Nat.le_refl _, fun _ _ => rfl⟩⟩, rfl⟩ (by simpa using h)
theorem decode_fam (s : ByteArray) (R K : Nat) (w : World) (hU : Lib.Utf8Tabs (Tryd.lays197_ren.g 3) (Tryd.lays197_ren.g 4) w) (x : Fam w) (hR : (Lib.decodeGo s).1 = R) (hK : (Lib.decodeGo s).2 = K) :
    Calls Tryd.prog 24 #[.string s] x.W fun e w'' => e = .returned (.tuple #[.int .i32 (R : Int), .int .i64 (K : Int)]) ∧ ∃ y : Fam w, w'' = y.W := by
  subst hR hK
  exact (Any.utf8_DecodeRuneInString Tryd.lays197 s x.W (Utf8Tabs_below hU x.h)).mono fun e w'' ⟨he, hb⟩ => ⟨he, ⟨w'', x.h.trans (hb.mono x.h.size)⟩, rfl⟩
end Go.Proofs.Qxb6614551aDoor
