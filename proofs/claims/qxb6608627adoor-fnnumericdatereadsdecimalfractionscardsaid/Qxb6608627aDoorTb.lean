import Derived.Test.Qxb6608627aDoorFbPlain
namespace Go.Proofs.Qxb6608627aDoor
open Go.RowKit

theorem below_cell {B : Nat} {w w' : World} (h : Below B w w') {a : Addr} (ha : a.block < B) : w'.cell? a = w.cell? a := by
  simp only [World.cell?, h.block _ ha]
/-- the tables, below B: pb: powtab's row, lb: leftcheats', fb: float64pow10's; hiT, loT: pow10Tab's numbers -/
structure Tb (B pb pbo lb lbo fb fbo : Nat) (fT hiT loT : Nat → Nat) (w : World) : Prop where
  opt : w.cell? ⟨3, 0, none⟩ = some (.bool true)
  f0 : w.cell? ⟨4, 0, none⟩ = some (.int .u64 52)
  f1 : w.cell? ⟨4, 1, none⟩ = some (.int .u64 11)
  f2 : w.cell? ⟨4, 2, none⟩ = some (.int .i64 (-1023))
  pw : w.cell? ⟨6, 0, none⟩ = some (.slice (some ⟨pb, pbo, none⟩) 9 9)
  pwc : ∀ i, i < 9 → w.cell? ⟨pb, pbo + i, none⟩ = some (.int .i64 (pwt i : Int))
  lc : w.cell? ⟨9, 0, none⟩ = some (.slice (some ⟨lb, lbo, none⟩) 61 61)
  lc0 : ∀ k, k < 61 → w.cell? ⟨lb, lbo + k * 2, none⟩ = some (.int .i64 (dtT k : Int))
  lc1 : ∀ k, k < 61 → w.cell? ⟨lb, lbo + k * 2 + 1, none⟩ = some (.string (cutT k))
  fp : w.cell? ⟨7, 0, none⟩ = some (.slice (some ⟨fb, fbo, none⟩) 23 23)
  fpc : ∀ i, i < 23 → w.cell? ⟨fb, fbo + i, none⟩ = some (.float .f64 (fT i))
  hi : ∀ i, i < 696 → w.cell? ⟨8, i * 2, none⟩ = some (.int .u64 (hiT i : Int))
  lo : ∀ i, i < 696 → w.cell? ⟨8, i * 2 + 1, none⟩ = some (.int .u64 (loT i : Int))
  lt : pb < B ∧ lb < B ∧ fb < B ∧ 12 < B
section
variable {B pb pbo lb lbo fb fbo : Nat} {fT hiT loT : Nat → Nat} {w w' : World}
theorem Tb.mono (t : Tb B pb pbo lb lbo fb fbo fT hiT loT w) (h : Below B w w') : Tb B pb pbo lb lbo fb fbo fT hiT loT w' := by
  obtain ⟨l1, l2, l3, l4⟩ := t.lt
  have c : ∀ (x i : Nat), x < B → w'.cell? ⟨x, i, none⟩ = w.cell? ⟨x, i, none⟩ := fun x i hx => below_cell h hx
  exact ⟨(c _ _ (by omega)).trans t.opt, (c _ _ (by omega)).trans t.f0, (c _ _ (by omega)).trans t.f1, (c _ _ (by omega)).trans t.f2, (c _ _ (by omega)).trans t.pw, fun i hi => (c _ _ l1).trans (t.pwc i hi), (c _ _ (by omega)).trans t.lc,
    fun i hi => (c _ _ l2).trans (t.lc0 i hi), fun i hi => (c _ _ l2).trans (t.lc1 i hi), (c _ _ (by omega)).trans t.fp, fun i hi => (c _ _ l3).trans (t.fpc i hi), fun i hi => (c _ _ (by omega)).trans (t.hi i hi), fun i hi => (c _ _ (by omega)).trans (t.lo i hi), t.lt⟩
theorem Tb.ltab (t : Tb B pb pbo lb lbo fb fbo fT hiT loT w) {b k : Nat} (hb : B ≤ b) (hk : k ≤ 60) : LTab w b k (dtT k) (cutT k) := by
  obtain ⟨l1, l2, l3, l4⟩ := t.lt
  exact ⟨lb, lbo, t.lc, t.lc0 k (by omega), t.lc1 k (by omega), by omega, by omega⟩
end
end Go.Proofs.Qxb6608627aDoor
