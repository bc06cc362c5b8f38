import Derived.Test.Qxb6606102aDoorRows
import Derived.Test.Qxb6606102aDoorTie
import Derived.Test.Qxb6606102aDoorCards
import Derived.Test.Qxb6606102aDoorRtWalk
import Derived.Test.Qxb6606102aDoorRtWalkB
import Derived.Test.Qxb6606102aDoorTabs
import Derived.ProofKit
import Derived.Lay
import Derived.SevenTiedAt
import Derived.SliceStrings
import Derived.Carry
namespace Go.Proofs.Qxb6606102aDoor
open Go.ChangeShapes Go.WideShapes Go.ChangeAt Go.RowKit Go.Lib
open Go.ChangeMaps (open_string shut_string)

theorem rt_own : ownKnob Tryd.prog.godebug = none := by kernel_rfl
theorem rt_laidOut : laidOutB Tryd.prog = true := by kernel_rfl
theorem rt_cells9 : Tryd.prog.cellsOf 9 = 1 := by kernel_rfl

theorem rt_all (a0 a1 : Option Addr) (b0 o0 c0 b1 o1 c1 : Nat) (Ns Vs : List ByteArray) (gap sep : ByteArray) (w : World) (hT : Tabs w) (hN : Strs w a0 b0 o0 Ns) (hV : Strs w a1 b1 o1 Vs)
    (hnN : a0 = none → Ns = [] ∧ c0 = 0) (hnV : a1 = none → Vs = [] ∧ c1 = 0) (hn : Ns.length ≤ maxLen) (hv : Vs.length ≤ maxLen) (hg : gap.size ≤ maxLen) (hp : sep.size ≤ maxLen) :
    Calls Tryd.prog 6 #[.slice a0 Ns.length c0, .slice a1 Vs.length c1, .string gap, .string sep] w fun e w' => e = .returned (.bool true) ∧ Below w.heap.size w w' := by
  by_cases h : (Vs.length : Int) < (Ns.length : Int)
  · exact rt_walk_lt a0 a1 b0 o0 c0 b1 o1 c1 Ns Vs gap sep w hT hN hV hnN hnV h hn hv hg hp
  · exact rt_walk_ge a0 a1 b0 o0 c0 b1 o1 c1 Ns Vs gap sep w hT hN hV hnN hnV h hn hv hg hp

/-- A []string that came in, nil or not, as the walk wants it. -/
theorem open_arg {H : Type} {enc : TypeId × Value → H} {W : World} {a0 : Option Addr} {len cap fuel : Nat} {x : DataW H × List MemPlace}
    (hf : DataW.trod enc Tryd.prog W 0 (fun _ => true) true fuel 25 [.slice a0 len cap] = some x) :
    ∃ (b off : Nat) (Xs : List ByteArray), Xs.length = len ∧ Strs W a0 b off Xs ∧ (a0 = none → Xs = [] ∧ cap = 0) ∧ len ≤ maxLen := by
  rcases open_strings Tryd.underlying25 Tryd.underlying9 rt_cells9 hf with ⟨hcs, hx⟩ | ⟨a, len', cap', ss, hcs, _, hl, hm, hz, hx, hcell, _⟩
  · simp at hcs
    obtain ⟨rfl, rfl, rfl⟩ := hcs
    exact ⟨0, 0, [], rfl, ⟨fun h => absurd h (by simp), fun j hj => absurd hj (by simp)⟩, fun _ => ⟨rfl, rfl⟩, Nat.zero_le _⟩
  · simp at hcs
    obtain ⟨rfl, rfl, rfl⟩ := hcs
    simp only [if_true] at hz
    obtain ⟨b, off, spot⟩ := a
    have hlen : (ss.take len).length = len := by simp; omega
    refine ⟨b, off, ss.take len, hlen, ⟨fun h0 => ?_, fun j hj => ?_⟩, fun h => (by cases h), by omega⟩
    · rw [hlen] at h0
      have hspot : spot = none := by simpa [Addr.add] using World.cell?_spot (hcell 0 (by omega))
      subst hspot
      exact ⟨rfl, cell_lt (hcell 0 (by omega))⟩
    · rw [hlen] at hj
      have hspot : spot = none := by simpa [Addr.add] using World.cell?_spot (hcell 0 (by omega))
      subst hspot
      have hX' : (ss.take len).getD j ByteArray.empty = ss.getD j ByteArray.empty := by
        simp [List.getD, List.getElem?_take_of_lt hj]
      rw [hX', ← add_plain]
      exact hcell j (by omega)

set_option maxRecDepth 100000 in
theorem rt_lifted (os : Os) (started : os.Started) (H : Type) (enc : TypeId × Value → H) :
    ReturnsInHanded {} Tryd.checked os 6 .any (fun w args => (Rows.fnChallengeParamsRoundTripSpec.pre enc Tryd.prog Tryd.f6 Rows.fnChallengeParamsRoundTripRow.domain false w args ∧ laidMetH Tryd.prog Rows.fnChallengeParamsRoundTripRow.laid w) ∧ sizedMet enc Tryd.prog Tryd.f6 (OpenSpec.ofChange Rows.fnChallengeParamsRoundTripSpec) false w args)
      (Rows.fnChallengeParamsRoundTripSpec.post enc Tryd.prog Tryd.f6 false true false false) := by
  refine returnsInHanded_both (C := Tryd.checked) (X := fun w _ => laidMetH Tryd.prog Rows.fnChallengeParamsRoundTripRow.laid w) (fun _ _ _ hh h => h.of_heap hh) rt_own started (by kernel_rfl) Tryd.func6
    (ChangeSpec.witness_shaped (enc := enc) (C := Tryd.checked) (os := os) (X := fun w _ => laidMetH Tryd.prog Rows.fnChallengeParamsRoundTripRow.laid w) false (World.laidAll Tryd.prog os Rows.fnChallengeParamsRoundTripRow.laid) #[.slice none 0 0, .slice none 0 0, .string ByteArray.empty, .string ByteArray.empty] 8 (World.laidAll_os _ _ _)
      (World.shaped_of_ZipB (by kernel_rfl) (by kernel_rfl)) (by kernel_rfl) (by kernel_rfl) (by kernel_rfl)
      (by rw [MakeChecks.laidMetH_plain _ _ _ (by kernel_rfl)]; exact laidMet_laidAll _ (by kernel_rfl) (by kernel_rfl))) ?_
  intro W base args ds gs before hval0 hW _ _ hL hsh _
  have hval : ∀ (j : Nat) t v, Tryd.f6.params[j]? = some t → args[j]? = some v → Value.okWide Tryd.prog W .any base t v := hval0
  have hW' := hW
  obtain ⟨p, q, hA0, hV, rfl, _, _⟩ := hW
  have hA : DataW.TrodAll enc Tryd.prog W 0 (fun _ => true) true Tryd.f6.params.toList args.toList ds p := hA0
  rw [Tryd.params6] at hA hval
  obtain ⟨v0, v1, v2, v3, d0, d1, d2, d3, p0, p1, p2, p3, rfl, rfl, rfl, h0, h1, h2, h3⟩ := trodAll_four hA
  obtain ⟨rfl, rfl⟩ := trodVars_none hV
  obtain ⟨a0, l0, c0, rfl⟩ := okWide_slice Tryd.underlying25 (hval 0 25 v0 rfl rfl)
  obtain ⟨a1, l1, c1, rfl⟩ := okWide_slice Tryd.underlying25 (hval 1 25 v1 rfl rfl)
  obtain ⟨gap, rfl, rfl, rfl, hg⟩ := open_string Tryd.underlying9 (hval 2 9 v2 rfl rfl) h2
  obtain ⟨sep, rfl, rfl, rfl, hp⟩ := open_string Tryd.underlying9 (hval 3 9 v3 rfl rfl) h3
  have h0k := h0
  have h1k := h1
  obtain ⟨fuel0, hf0⟩ := h0
  obtain ⟨fuel1, hf1⟩ := h1
  simp only [List.append_nil] at hW'
  have hlt : ∀ x ∈ p0 ++ p1, x.block < W.heap.size := fun x hx => by simpa using hW'.lt x hx
  obtain ⟨b0, o0, Ns, rfl, hN, hnN, hn⟩ := open_arg hf0
  obtain ⟨b1, o1, Vs, rfl, hV2, hnV, hv⟩ := open_arg hf1
  rw [MakeChecks.laidMetH_plain _ _ _ (by kernel_rfl)] at hL
  have hT : Tabs W := tabs_of hsh (Lib.laidMet.reads hL (.head _)) (Lib.laidMet.reads hL (.tail _ (.head _))) (Lib.laidMet.reads hL (.tail _ (.tail _ (.head _)))) (Lib.laidMet.reads hL (.tail _ (.tail _ (.tail _ (.head _))))) (Lib.laidMet.reads hL (.tail _ (.tail _ (.tail _ (.tail _ (.head _))))))
  refine (rt_all a0 a1 b0 o0 c0 b1 o1 c1 Ns Vs gap sep W hT hN hV2 hnN hnV hn hv hg hp).mono fun e W' ⟨he, hb⟩ => ?_
  subst he
  have k0 := Below.trod rt_laidOut (by kernel_rfl) (of_decide_eq_true (by kernel_rfl)) h0k hb (fun x hx => hlt x (by simp [hx]))
  have k1 := Below.trod rt_laidOut (by kernel_rfl) (of_decide_eq_true (by kernel_rfl)) h1k hb (fun x hx => hlt x (by simp [hx]))
  exact ⟨_, rfl, _, _, _, [], _, [], hW', trodAll_mk1 (shut_bool Tryd.underlying4 _), trodAll_mk4 k0 k1 (shut_string Tryd.underlying9 hg) (shut_string Tryd.underlying9 hp), rfl, hb.frame _, fun h => by cases h⟩

theorem rt_holds : Rows.FnChallengeParamsRoundTripSaid :=
  OpenClaim.holds_of_wide 6 Tryd.f6 rfl rfl rfl rfl rfl rfl rfl ⟨rfl, rfl, rfl, rfl, rfl⟩ rfl rfl rfl rfl rfl (by kernel_rfl) Tryd.func6 (by kernel_rfl)
    (of_decide_eq_true (by kernel_rfl)) (by unfold Func.isWrapper; first | (rw [if_pos (by decide +kernel)]; kernel_rfl) | (rw [if_neg (by decide +kernel)]; exact ⟨rfl, rfl⟩))
    (fun os started H enc _ => rt_lifted os started H enc)

theorem rt_card : Rows.FnChallengeParamsRoundTripCardSaid :=
  Claim7.holds_tied_plain_at .later [] [.data, .listed, .data, .pinned, .pinned] true (true, "a87eac17f884437476d1b536760119604679c3127c383275b468b817fd5b0513") false rt_holds (fun _ h => by cases h) (by kernel_rfl) (fun _ h => by cases h) fnChallengeParamsRoundTrip_row_tie rfl ⟨rfl, rfl⟩ (by kernel_rfl) rfl
    (fun f fn hf hfn => by
      obtain rfl : f = 6 := Option.some.inj ((show Tryd.prog.funcNamed Rows.fnChallengeParamsRoundTripRow.func = some 6 by kernel_rfl).symm.trans hf) |>.symm
      obtain rfl : fn = Tryd.f6 := (Option.some.inj (Tryd.func6.symm.trans hfn)).symm
      exact ⟨by kernel_rfl, fun j t ht => by
        rw [Tryd.params6] at ht
        have hm : t ∈ [25, 25, 9, 9] := by simpa using Array.mem_of_getElem? ht
        have hall : ([25, 25, 9, 9].all fun u => !Tryd.prog.wantsStandIn u) = true := by kernel_rfl
        exact (show Tryd.prog.wantsStandIn t = false by simpa using List.all_eq_true.1 hall t hm)⟩)
    (by kernel_rfl)
end Go.Proofs.Qxb6606102aDoor
