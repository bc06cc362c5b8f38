import Derived.Test.Qxb6608627aDoorRows
import Derived.Test.Qxb6608627aDoorTb
import Derived.Test.Qxb6608627aDoorFl
import Derived.Lib.LaidU8
import Derived.Deep.SlicePairs
import Derived.Lib.AtoiErrMem
import Derived.Laws.Cover2
namespace Go.Proofs.Qxb6608627aDoor
open Go.RowKit Go.Lib

def hiT (i : Nat) : Nat := (Pinned.pow10Rows.getD i (0, 0)).1
def loT (i : Nat) : Nat := (Pinned.pow10Rows.getD i (0, 0)).2
theorem rows_ok : Pinned.pow10Rows.all (fun x => decide (x.1 < 18446744073709551616) && decide (x.2 < 18446744073709551616)) = true := by kernel_rfl
theorem row_ok (i : Nat) : (Pinned.pow10Rows.getD i (0, 0)).1 < 18446744073709551616 ∧ (Pinned.pow10Rows.getD i (0, 0)).2 < 18446744073709551616 := by
  by_cases h : i < Pinned.pow10Rows.length
  · have := List.all_eq_true.1 rows_ok _ (List.getElem_mem h)
    rw [List.getD_eq_getElem?_getD, List.getElem?_eq_getElem h]
    simpa using this
  · rw [List.getD_eq_getElem?_getD, List.getElem?_eq_none (by omega)]
    decide
theorem hiT_lt (i : Nat) : hiT i < 18446744073709551616 := (row_ok i).1
theorem loT_lt (i : Nat) : loT i < 18446744073709551616 := (row_ok i).2
theorem pw_data : (Rows.laid_internal_strconv_powtab : DataW Unit) = .slice ((List.range 9).map fun i => .lit (.int .i64 (pwt i : Int))) [] := by kernel_rfl
theorem fp_data : (Rows.laid_internal_strconv_float64pow10 : DataW Unit) = .slice ((List.range 23).map fun i => .lit (.float .f64 (f10 i))) [] := by kernel_rfl
theorem lc_len : Pinned.cheatRows.length = 61 := by kernel_rfl
theorem p10_len : Pinned.pow10Rows.length = 696 := by kernel_rfl
theorem lc_data : Rows.laid_internal_strconv_leftcheats = .slice (Pinned.cheatRows.map fun x => .agg [.lit (.int .i64 x.1), .lit (.string x.2)]) [] := rfl
theorem p10_data : Rows.laid_internal_strconv_pow10Tab = .agg (Pinned.pow10Rows.map fun x => .agg [.lit (.int .u64 x.1), .lit (.int .u64 x.2)]) := rfl

theorem var_parts {W : World} {n : String} {g : Nat} {t : TypeId} {d : DataW Unit} (hn : Tryd.prog.globalNamed n = some g) (ht : (Tryd.prog.globals[g]?).map (·.type) = some t) (h : VarReads Tryd.prog W n d) :
    ∃ (cs : List Value) (fuel : Nat) (p : List MemPlace), (∀ i : Nat, W.cell? ⟨g, i, none⟩ = cs[i]?) ∧ DataW.trod (fun _ => ()) Tryd.prog W 0 (fun _ => true) false fuel t cs = some (d, p) := by
  obtain ⟨g', t', cs, fuel, p, hg, hty, hvar, hd⟩ := h
  obtain rfl := Option.some.inj (hn.symm.trans hg)
  obtain rfl := Option.some.inj (ht.symm.trans hty)
  exact ⟨cs.toList, fuel, p, fun i => by rw [World.var?_cell hg hvar i, Array.getElem?_toList], hd⟩

theorem opt_of {W : World} {nm : String} (hn : Tryd.prog.globalNamed nm = some 3) (h : VarReads Tryd.prog W nm Rows.laid_internal_strconv_optimize) : W.cell? ⟨3, 0, none⟩ = some (.bool true) := by
  obtain ⟨cs, fuel, p, hc, hd⟩ := var_parts (g := 3) (t := 4) hn (by kernel_rfl) h
  obtain ⟨b, rfl, hx⟩ := DataW.trod_bool Tryd.underlying4 hd
  have : b = true := by
    have := congrArg Prod.fst hx
    simpa [Rows.laid_internal_strconv_optimize] using this.symm
  rw [hc 0, this]; rfl
theorem info_of {W : World} {nm : String} (hn : Tryd.prog.globalNamed nm = some 4) (h : VarReads Tryd.prog W nm Rows.laid_internal_strconv_float64info) : W.cell? ⟨4, 0, none⟩ = some (.int .u64 52) ∧ W.cell? ⟨4, 1, none⟩ = some (.int .u64 11) ∧ W.cell? ⟨4, 2, none⟩ = some (.int .i64 (-1023)) := by
  obtain ⟨cs, fuel, p, hc, hd⟩ := var_parts (g := 4) (t := 60) hn (by kernel_rfl) h
  obtain ⟨xs, n, _, hx, _, hl, hf⟩ := DataW.trod_struct Tryd.underlying60 hd
  have hxs : xs.map (·.1) = [.lit (.int .u64 52), .lit (.int .u64 11), .lit (.int .i64 (-1023))] := by
    have := congrArg Prod.fst hx
    simpa [Rows.laid_internal_strconv_float64info] using this.symm
  have g0 := hf 0 _ rfl
  have g1 := hf 1 _ rfl
  have g2 := hf 2 _ rfl
  match xs, hxs with
  | [x0, x1, x2], hxs =>
    simp only [List.map_cons, List.map_nil, List.cons.injEq, and_true] at hxs
    obtain ⟨e0, e1, e2⟩ := hxs
    obtain ⟨z0, k0, r0, _⟩ := DataW.trod_int Tryd.underlying58 g0
    obtain ⟨z1, k1, r1, _⟩ := DataW.trod_int Tryd.underlying58 g1
    obtain ⟨z2, k2, r2, _⟩ := DataW.trod_int Tryd.underlying3 g2
    rw [r0] at e0; rw [r1] at e1; rw [r2] at e2
    simp only [DataW.lit.injEq, Lit.int.injEq, true_and] at e0 e1 e2
    subst e0 e1 e2
    have q0 := congrArg (·[0]?) k0
    have q1 := congrArg (·[0]?) k1
    have q2 := congrArg (·[0]?) k2
    simp only [List.getElem?_take, List.getElem?_drop] at q0 q1 q2
    have p0 : 0 < Tryd.prog.cellsOf 58 ∧ cs[0]? = some (Value.int IntKind.u64 52) := by simpa using q0
    have p1 : 0 < Tryd.prog.cellsOf 58 ∧ cs[1]? = some (Value.int IntKind.u64 11) := by simpa using q1
    have p2 : 0 < Tryd.prog.cellsOf 3 ∧ cs[2]? = some (Value.int IntKind.i64 (-1023)) := by simpa using q2
    exact ⟨(hc 0).trans p0.2, (hc 1).trans p1.2, (hc 2).trans p2.2⟩
set_option maxRecDepth 100000 in
theorem iface_cell {P : Program} {t : TypeId} {ms : Array (String × TypeId)} (ht : P.underlying t = some (.interface ms)) {W : World} {cs : List Value} {fuel : Nat} {p : List MemPlace} {nm : String} {d : DataW Unit} (hd : DataW.trod (fun _ => ()) P W 0 (fun _ => true) false fuel t cs = some (.iface nm d, p)) : ∃ te pe, cs = [.iface te pe] := by
  cases fuel with
  | zero => simp [DataW.trod] at hd
  | succ n =>
    unfold DataW.trod at hd
    rw [ht] at hd
    split at hd <;> simp_all
theorem err_of {W : World} {nm : String} (hn : Tryd.prog.globalNamed nm = some 1) (h : VarReads Tryd.prog W nm Rows.laid_strconv_ErrRange) : ∃ te pe, W.cell? ⟨1, 0, none⟩ = some (.iface te pe) := by
  obtain ⟨cs, fuel, p, hc, hd⟩ := var_parts (g := 1) (t := 33) hn (by kernel_rfl) h
  obtain ⟨te, pe, rfl⟩ := iface_cell Tryd.underlying33 hd
  exact ⟨te, pe, by rw [hc 0]; rfl⟩
theorem big_of {W : World} {nm : String} (hn : Tryd.prog.globalNamed nm = some 12) (h : VarReads Tryd.prog W nm Rows.laid_math_bits_deBruijn64tab) : 12 < W.heap.size := by
  obtain ⟨g', t', cs, fuel, p, hg, hty, hvar, hd⟩ := h
  have e127 : (Tryd.prog.globals[12]?).map (·.type) = some 127 := by kernel_rfl
  obtain rfl := Option.some.inj (hn.symm.trans hg)
  obtain rfl := Option.some.inj (e127.symm.trans hty)
  obtain ⟨fuel', d, q, _, he⟩ := array_elem Tryd.underlying127 hd 0 (by decide)
  obtain ⟨z, hz, _⟩ := DataW.trod_int Tryd.underlying5 he
  have hc := World.var?_cell hg hvar 0
  have c5 : Tryd.prog.cellsOf 5 = 1 := by kernel_rfl
  have q0 := congrArg (·[0]?) hz
  simp only [c5, List.getElem?_take, List.getElem?_drop] at q0
  rw [← Array.getElem?_toList] at hc
  have : W.cell? ⟨12, 0, none⟩ = some (.int .u8 z) := by rw [hc]; simpa using q0
  exact Lib.lt_of_cell this

theorem add_none {W : World} {a : Addr} {v : Value} (h : W.cell? (a.add 0) = some v) : a = ⟨a.block, a.off, none⟩ := by
  rw [Addr.add_zero'] at h
  obtain ⟨b, o, sp⟩ := a
  have := cell_spot h
  subst this
  rfl
theorem row_of {W : World} {t e : TypeId} {cs : List Value} {fuel N : Nat} {p : List MemPlace} {F : Nat → DataW Unit} (ht : Tryd.prog.underlying t = some (.slice e)) (hc : Tryd.prog.cellsOf e = 1) (hN : 0 < N)
    (hd : DataW.trod (fun _ => ()) Tryd.prog W 0 (fun _ => true) false fuel t cs = some (.slice ((List.range N).map F) [], p)) :
    ∃ b off : Nat, cs = [.slice (some ⟨b, off, none⟩) N N] ∧ ∀ i, i < N → ∃ v n q, W.cell? ⟨b, off + i, none⟩ = some v ∧ DataW.trod (fun _ => ()) Tryd.prog W 0 (fun _ => true) false n e [v] = some (F i, q) := by
  rcases Deep.open_slice1 ht hc hd with ⟨_, hx⟩ | ⟨a, len, cap, m, n, V, D, Pl, rfl, _, hl, _, hm, hx, hV⟩
  · simp at hx
  · simp only [Prod.mk.injEq, DataW.slice.injEq] at hx
    obtain ⟨⟨h1, h2⟩, _⟩ := hx
    have e1 : len = N := by have := congrArg List.length h1; simpa using this.symm
    have e2 : m - len = 0 := by have := congrArg List.length h2; simpa using this.symm
    simp only [if_true] at hm
    have e3 : cap = N := by omega
    subst e1 e3
    have e4 : a = ⟨a.block, a.off, none⟩ := add_none (hV 0 (by omega)).1
    refine ⟨a.block, a.off, by rw [← e4], fun i hi => ?_⟩
    obtain ⟨v1, v2⟩ := hV i (by omega)
    rw [e4, Addr.add_lit] at v1
    have e5 : D i = F i := by
      have := congrArg (·[i]?) h1
      simp [hi] at this
      exact this.symm
    rw [e5] at v2
    exact ⟨V i, n, Pl i, v1, v2⟩
theorem pairs_of {W : World} {t e : TypeId} {f0 f1 : Field} {cs : List Value} {fuel N : Nat} {p : List MemPlace} {F G : Nat → DataW Unit} (ht : Tryd.prog.underlying t = some (.slice e)) (he : Tryd.prog.underlying e = some (.struct #[f0, f1]))
    (ce : Tryd.prog.cellsOf e = 2) (o0 : f0.offset = 0) (o1 : f1.offset = 1) (c0 : Tryd.prog.cellsOf f0.type = 1) (c1 : Tryd.prog.cellsOf f1.type = 1) (hN : 0 < N)
    (hd : DataW.trod (fun _ => ()) Tryd.prog W 0 (fun _ => true) false fuel t cs = some (.slice ((List.range N).map fun i => .agg [F i, G i]) [], p)) :
    ∃ b off : Nat, cs = [.slice (some ⟨b, off, none⟩) N N] ∧ ∀ i, i < N → ∃ v u n q r, W.cell? ⟨b, off + i * 2, none⟩ = some v ∧ W.cell? ⟨b, off + i * 2 + 1, none⟩ = some u ∧ DataW.trod (fun _ => ()) Tryd.prog W 0 (fun _ => true) false n f0.type [v] = some (F i, q) ∧ DataW.trod (fun _ => ()) Tryd.prog W 0 (fun _ => true) false n f1.type [u] = some (G i, r) := by
  rcases Deep.open_slice_pairs ht he ce o0 o1 c0 c1 hd with ⟨_, hx⟩ | ⟨a, len, cap, m, n, V0, V1, D0, D1, P0, P1, rfl, _, hl, _, hm, hx, hV⟩
  · simp at hx
  · simp only [Prod.mk.injEq, DataW.slice.injEq] at hx
    obtain ⟨⟨h1, h2⟩, _⟩ := hx
    have e1 : len = N := by have := congrArg List.length h1; simpa using this.symm
    have e2 : m - len = 0 := by have := congrArg List.length h2; simpa using this.symm
    simp only [if_true] at hm
    have e3 : cap = N := by omega
    subst e1 e3
    have e4 : a = ⟨a.block, a.off, none⟩ := add_none (hV 0 (by omega)).1
    refine ⟨a.block, a.off, by rw [← e4], fun i hi => ?_⟩
    obtain ⟨v1, v2, v3, v4⟩ := hV i (by omega)
    rw [e4, Addr.add_lit] at v1 v2
    have e5 : D0 i = F i ∧ D1 i = G i := by
      have := congrArg (·[i]?) h1
      simp [hi] at this
      exact ⟨this.1.symm, this.2.symm⟩
    rw [e5.1] at v3
    rw [e5.2] at v4
    exact ⟨V0 i, V1 i, n, P0 i, P1 i, v1, v2, v3, v4⟩
theorem by_range {α β : Type} (l : List α) (z : α) (f : α → β) (N : Nat) (hN : l.length = N) : l.map f = (List.range N).map fun i => f (l.getD i z) := by
  apply List.ext_getElem?
  intro i
  by_cases h : i < l.length
  · have h' : i < N := by omega
    simp [h, h', List.getD]
  · have h' : ¬ i < N := by omega
    simp [h, h']
theorem pw_of {W : World} {nm : String} (hn : Tryd.prog.globalNamed nm = some 6) (h : VarReads Tryd.prog W nm Rows.laid_internal_strconv_powtab) : ∃ pb pbo, W.cell? ⟨6, 0, none⟩ = some (.slice (some ⟨pb, pbo, none⟩) 9 9) ∧ ∀ i, i < 9 → W.cell? ⟨pb, pbo + i, none⟩ = some (.int .i64 (pwt i : Int)) := by
  obtain ⟨cs, fuel, p, hc, hd⟩ := var_parts (g := 6) (t := 100) hn (by kernel_rfl) h
  rw [pw_data] at hd
  obtain ⟨b, off, rfl, hV⟩ := row_of Tryd.underlying100 (by kernel_rfl) (by decide) hd
  refine ⟨b, off, by rw [hc 0]; rfl, fun i hi => ?_⟩
  obtain ⟨v, n, q, h1, h2⟩ := hV i hi
  obtain ⟨z, k, r, _⟩ := DataW.trod_int Tryd.underlying3 h2
  have e := congrArg Prod.fst r
  simp only [DataW.lit.injEq, Lit.int.injEq, true_and] at e
  rw [h1, List.singleton_inj.1 k, e]
theorem fp_of {W : World} {nm : String} (hn : Tryd.prog.globalNamed nm = some 7) (h : VarReads Tryd.prog W nm Rows.laid_internal_strconv_float64pow10) : ∃ fb fbo, W.cell? ⟨7, 0, none⟩ = some (.slice (some ⟨fb, fbo, none⟩) 23 23) ∧ ∀ i, i < 23 → W.cell? ⟨fb, fbo + i, none⟩ = some (.float .f64 (f10 i)) := by
  obtain ⟨cs, fuel, p, hc, hd⟩ := var_parts (g := 7) (t := 102) hn (by kernel_rfl) h
  rw [fp_data] at hd
  obtain ⟨b, off, rfl, hV⟩ := row_of Tryd.underlying102 (by kernel_rfl) (by decide) hd
  refine ⟨b, off, by rw [hc 0]; rfl, fun i hi => ?_⟩
  obtain ⟨v, n, q, h1, h2⟩ := hV i hi
  rw [h1]
  cases n with
  | zero => simp [DataW.trod] at h2
  | succ n =>
    unfold DataW.trod at h2
    rw [Tryd.underlying25] at h2
    cases v <;> simp_all
theorem lc_of {W : World} {nm : String} (hn : Tryd.prog.globalNamed nm = some 9) (h : VarReads Tryd.prog W nm Rows.laid_internal_strconv_leftcheats) : ∃ lb lbo, W.cell? ⟨9, 0, none⟩ = some (.slice (some ⟨lb, lbo, none⟩) 61 61) ∧ (∀ k, k < 61 → W.cell? ⟨lb, lbo + k * 2, none⟩ = some (.int .i64 (dtT k : Int))) ∧ ∀ k, k < 61 → W.cell? ⟨lb, lbo + k * 2 + 1, none⟩ = some (.string (cutT k)) := by
  obtain ⟨cs, fuel, p, hc, hd⟩ := var_parts (g := 9) (t := 118) hn (by kernel_rfl) h
  rw [lc_data, by_range Pinned.cheatRows (0, []) _ 61 lc_len] at hd
  obtain ⟨b, off, rfl, hV⟩ := pairs_of Tryd.underlying118 Tryd.underlying117 (by kernel_rfl) rfl rfl (by kernel_rfl) (by kernel_rfl) (by decide) hd
  have key : ∀ k, k < 61 → W.cell? ⟨b, off + k * 2, none⟩ = some (.int .i64 (dtT k : Int)) ∧ W.cell? ⟨b, off + k * 2 + 1, none⟩ = some (.string (cutT k)) := by
    intro k hk
    obtain ⟨v, u, n, q, r, h1, h2, h3, h4⟩ := hV k hk
    obtain ⟨z, kz, rz, _⟩ := DataW.trod_int Tryd.underlying3 h3
    obtain ⟨s, ks, rs, _⟩ := DataW.trod_string Tryd.underlying9 h4
    have e := congrArg Prod.fst rz
    simp only [DataW.lit.injEq, Lit.int.injEq, true_and] at e
    have e' := congrArg Prod.fst rs
    simp only [DataW.lit.injEq, Lit.string.injEq] at e'
    rw [h1, h2, List.singleton_inj.1 kz, List.singleton_inj.1 ks]
    refine ⟨by rw [← e]; rfl, ?_⟩
    have : s = cutT k := by
      apply ByteArray.ext
      apply Array.toList_inj.1
      rw [← e']
      rfl
    rw [this]
  exact ⟨b, off, by rw [hc 0]; rfl, fun k hk => (key k hk).1, fun k hk => (key k hk).2⟩
theorem p10_of {W : World} {nm : String} (hn : Tryd.prog.globalNamed nm = some 8) (h : VarReads Tryd.prog W nm Rows.laid_internal_strconv_pow10Tab) : ∀ i, i < 696 → W.cell? ⟨8, i * 2, none⟩ = some (.int .u64 (hiT i : Int)) ∧ W.cell? ⟨8, i * 2 + 1, none⟩ = some (.int .u64 (loT i : Int)) := by
  obtain ⟨cs, fuel, p, hc, hd⟩ := var_parts (g := 8) (t := 107) hn (by kernel_rfl) h
  intro i hi
  rw [p10_data, by_range Pinned.pow10Rows (0, 0) _ 696 p10_len] at hd
  obtain ⟨fuel', d, q, hdi, he⟩ := array_elem Tryd.underlying107 hd i hi
  have c106 : Tryd.prog.cellsOf 106 = 2 := by kernel_rfl
  have c28 : Tryd.prog.cellsOf 28 = 1 := by kernel_rfl
  simp only [List.getElem?_map, List.getElem?_range hi, Option.map_some, Option.some.injEq] at hdi
  subst hdi
  rw [c106] at he
  have hcs := ints_of_struct (zs := [(hiT i : Int), (loT i : Int)]) Tryd.underlying106 (fun j f hj => by
    match j, hj with
    | 0, hj => simp at hj; subst hj; exact ⟨Tryd.underlying28, rfl, c28⟩
    | 1, hj => simp at hj; subst hj; exact ⟨Tryd.underlying28, rfl, c28⟩
    | j + 2, hj => simp at hj) (by rw [c106]; rfl) he
  have e0 := congrArg (·[0]?) hcs
  have e1 := congrArg (·[1]?) hcs
  simp only [List.getElem?_take, List.getElem?_drop] at e0 e1
  exact ⟨by rw [hc (i * 2)]; simpa using e0, by rw [hc (i * 2 + 1)]; simpa using e1⟩
end Go.Proofs.Qxb6608627aDoor
