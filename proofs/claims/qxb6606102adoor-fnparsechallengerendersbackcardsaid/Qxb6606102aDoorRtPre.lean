import Derived.Test.Qxb6606102aDoorRtPlain
import Derived.Test.Qxb6606102aDoorBufWalk
import Derived.Test.Qxb6606102aDoorChWalk
namespace Go.Proofs.Qxb6606102aDoor
open Go.RowKit Go.Maps Go.WideMaps

theorem zero9 (w : World) : (zeroValue 9).run Tryd.prog w = .ok (.string ⟨#[]⟩) w := by kernel_rfl
theorem bytes_ext {a b : ByteArray} (h : a.data.toList = b.data.toList) : a = b := ByteArray.ext (Array.toList_inj.1 h)

/-- 'v, ok := m[k]' in a map of strings that the call made, what stands at the key known. -/
theorem wpList_lookup_str {ops : Array Oper} {rest : List Oper} {o : Oper} {a : Act} {Q : Exit → Act → World → Prop} (w : World) (hg : o.guard = none) (m x : Operand) (hop : o.op = Op.lookup 23 m x true) (b n : Nat) (D : DataW Unit)
    (hm : a.eval m = .map (some b)) (hown : w.ownsMap Tryd.prog 9 (plainElem (H := Unit) Tryd.prog 9) b n D) (key c : ByteArray) (hx : a.eval x = .string key) (hk : key.size ≤ maxLen)
    (hat : D.atKey (.string key.data.toList) (.lit (.string [])) = .lit (.string c.data.toList)) (B : Bool) (hB : Maps.has D (.string key.data.toList) = B)
    (hK : wpList Tryd.prog ops Q rest (a.put o.dst (.tuple #[.string c, .bool B])) w) : wpList Tryd.prog ops Q (o :: rest) a w := by
  refine wpList_lookup_own_ok w hg m x 23 hop 9 9 law Tryd.underlying23 _ (zero9 w) (.lit (.string [])) [] (plainElem_string Tryd.underlying9 (by decide)) b n D hm hown (.string key) (.string key.data.toList) hx (keyOf_string_mk Tryd.underlying9 hk) ?_
  intro v ps hv
  obtain ⟨s, rfl, hz, _⟩ := plainElem_string_inv Tryd.underlying9 hv
  rw [hat] at hz
  have e : s = c := bytes_ext (by simp only [Prod.mk.injEq, DataW.lit.injEq, Lit.string.injEq] at hz; exact hz.1.symm)
  rw [hB]
  rw [e]
  exact hK

theorem below_drewN {B : Nat} {w w' : World} (h : Below B w w') (n : Nat) : Below B w (w'.drewN n) := h.trans ⟨rfl, rfl, rfl, Nat.le_refl _, fun _ _ => rfl⟩
theorem own_drewN {w : World} {b n : Nat} {D : DataW Unit} (h : w.ownsMap Tryd.prog 9 (plainElem (H := Unit) Tryd.prog 9) b n D) (m : Nat) : (w.drewN m).ownsMap Tryd.prog 9 (plainElem (H := Unit) Tryd.prog 9) b n D := h
theorem lastC_step (Ns Vs : List ByteArray) (k : Nat) (h : k < min Ns.length Vs.length) (x : List UInt8) (hx : (Ns.getD k ByteArray.empty).data.toList = x) :
    Pl.lastC ((pairs Ns Vs).drop k) = (if x ∈ Pl.keys ((pairs Ns Vs).drop (k + 1)) then 0 else 1) + Pl.lastC ((pairs Ns Vs).drop (k + 1)) := by
  rw [pairs_drop Ns Vs k h, ← hx]; rfl
end Go.Proofs.Qxb6606102aDoor
