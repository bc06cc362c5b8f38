import Derived.Test.Qxb6606102aDoorRbWalk
namespace Go.Proofs.Qxb6606102aDoor
open Go.RowKit Go.Maps Go.WideMaps

set_option maxRecDepth 100000 in
set_option maxHeartbeats 2000000 in
theorem zzparse_walk (b : Nat) (h : ByteArray) (p u : Bool) (a r s : ByteArray) (w : World) (hT : Tabs w) (hb : b < w.heap.size) (hc : w.cell? ⟨b, 0, none⟩ = some (.string h))
    (hh : Hid (h.data.toList = Pl.header p u a.data.toList r.data.toList s.data.toList)) (hs : h.size ≤ 16777216) (hsr : r.size ≤ 1048576) (hss : s.size ≤ 1048576) :
    Calls Tryd.prog 12 #[.slice (some ⟨b, 0, none⟩) 1 1] w fun e w' => ∃ A R S B, e = .returned (.tuple #[.string A, .string R, .string S, .bool B]) ∧ PC a r s A R S B ∧ Below w.heap.size w w' := by
  go_enter Tryd.func12, Tryd.ntmps12
  go_wp2_with fail
  refine (parse_walk b h p u a r s w hT hb hc hh hs hsr hss).mono ?_
  rintro e w1 ⟨A, R, S, B, rfl, hpc, hb1⟩
  have HR : Hid (PC a r s A R S B) := hpc
  clear hpc hT hb hc hh hs
  go_wp2_with fail
  go_quiet (fail)
  go_wp2
  refine bodyPost_ret (v := .tuple #[.string A, .string R, .string S, .bool B]) (by simp [results, Tryd.results12, go_sem]) rfl ?_
  exact ⟨A, R, S, B, rfl, HR.out, below_drewN (hb1.alloc hb1.size _) _⟩

/-- append(buf, "literal"...): the list under a name of its own, its length bounded. -/
theorem wpList_app_lit {ops : Array Oper} {rest : List Oper} {o : Oper} {act : Act} {Q : Exit → Act → World → Prop} (w : World) (hgd : o.guard = none) (sl x : Operand) (ho : o.op = .call { callee := .builtin .append, args := #[sl, x], argTypes := #[32, 9] })
    (B : Nat) (v : Value) (l : List UInt8) (hs : act.eval sl = v) (hown : Buf w B v l) (K : Nat) (hK : l.length ≤ K) (s : ByteArray) (hx : act.eval x = .string s) (n : Nat) (hn : s.size = n)
    (h63 : K + n ≤ 1073741824) (hbase : B ≤ w.heap.size)
    (h : ∀ v' w' l', Hid (l' = l ++ s.data.toList) → l'.length ≤ K + n → Buf w' B v' l' → Below B w w' → wpList Tryd.prog ops Q rest (act.put o.dst v') w') : wpList Tryd.prog ops Q (o :: rest) act w :=
  wpList_app_str w hgd sl x ho B v l hs hown s hx (by omega) hbase fun v' w' h1 h2 => h v' w' _ rfl (by rw [List.length_append, ← Lib.size_eq]; omega) h1 h2
theorem quoted_lit (B : Nat) (v : Value) (l : List UInt8) (K : Nat) (hK : l.length ≤ K) (s : ByteArray) (w : World) (hB : B ≤ w.heap.size) (hv : Buf w B v l) (hl : K ≤ 536870912) (hs : s.size ≤ 16777216) :
    Calls Tryd.prog 15 #[v, .string s, .bool false] w fun e w' => ∃ v' l', e = .returned v' ∧ Hid (l' = l ++ Pl.quote s.data.toList) ∧ l'.length ≤ K + (2 * s.size + 2) ∧ Buf w' B v' l' ∧ Below B w w' :=
  (quoted_walk B v l s w hB hv (by omega) hs).mono fun e w' ⟨v', he, h1, h2⟩ => ⟨v', _, he, rfl, by
    have := Pl.quote_len s.data.toList
    rw [← Lib.size_eq] at this
    rw [List.length_append]; omega, h1, h2⟩
end Go.Proofs.Qxb6606102aDoor
