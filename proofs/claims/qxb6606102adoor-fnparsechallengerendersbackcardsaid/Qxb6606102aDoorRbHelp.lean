import Derived.Test.Qxb6606102aDoorRtPre
namespace Go.Proofs.Qxb6606102aDoor
open Go.RowKit Go.Maps Go.WideMaps

def trimDef (s : ByteArray) : ByteArray := ⟨(Lib.trimSuffix s.data.toList [47, 46, 100, 101, 102, 97, 117, 108, 116]).toArray⟩

set_option maxRecDepth 100000 in
set_option maxHeartbeats 1000000 in
theorem bytes14 (a r s : ByteArray) (u p : Bool) (w : World) (ha : a.size ≤ maxLen) (hr : r.size ≤ maxLen) (hs : s.size ≤ maxLen) :
    Calls Tryd.prog 14 #[.string a, .string r, .string s, .bool u, .bool p] w fun e w' => SomeBool e ∧ w' = w := by
  unfold maxLen at ha hr hs
  go_enter Tryd.func14, Tryd.ntmps14
  by_cases h1 : (1048576 : Int) < (a.size : Int)
  · go_wp2; go_ret; exact ⟨⟨_, rfl⟩, rfl⟩
  by_cases h2 : (1048576 : Int) < (r.size : Int)
  · go_wp2; go_ret; exact ⟨⟨_, rfl⟩, rfl⟩
  by_cases h3 : (1048576 : Int) < (a.size : Int) + (r.size : Int)
  · go_wp2; go_ret; exact ⟨⟨_, rfl⟩, rfl⟩
  by_cases h4 : (1048576 : Int) < (s.size : Int)
  · go_wp2; go_ret; exact ⟨⟨_, rfl⟩, rfl⟩
  by_cases h5 : (1048576 : Int) < (a.size : Int) + (r.size : Int) + (s.size : Int)
  · go_wp2; go_ret; exact ⟨⟨_, rfl⟩, rfl⟩
  · go_wp2; go_ret; exact ⟨⟨_, rfl⟩, rfl⟩

theorem retS {a b : ByteArray} (h : a = b) : Ending.returned (.string a) = .returned (.string b) := by rw [h]
set_option maxRecDepth 100000 in
set_option maxHeartbeats 1000000 in
theorem trimDef_walk (s : ByteArray) (w : World) (hs : s.size ≤ 16777216) :
    Calls Tryd.prog 16 #[.string s] w fun e w' => e = .returned (.string (trimDef s)) ∧ w' = w := by
  go_enter Tryd.func16, Tryd.ntmps16
  by_cases h9 : (9 : Int) ≤ (s.size : Int)
  · cases hb : ((s.extract (s.size - 9) s.size).toList == [47, 46, 100, 101, 102, 97, 117, 108, 116])
    · have HF : Hid (trimDef s = s) := Lib.trimSuffix_miss s ⟨#[47, 46, 100, 101, 102, 97, 117, 108, 116]⟩ (by
        rw [show (⟨#[47, 46, 100, 101, 102, 97, 117, 108, 116]⟩ : ByteArray).size = 9 from rfl, Lib.toList_data ⟨#[47, 46, 100, 101, 102, 97, 117, 108, 116]⟩, hb, Bool.and_false])
      go_wp2
      go_ret
      exact ⟨retS HF.out.symm, rfl⟩
    · have HF : Hid (trimDef s = s.extract 0 (s.size - 9)) := Lib.trimSuffix_hit s ⟨#[47, 46, 100, 101, 102, 97, 117, 108, 116]⟩ (by show 9 ≤ _; omega) (by
        rw [show (⟨#[47, 46, 100, 101, 102, 97, 117, 108, 116]⟩ : ByteArray).size = 9 from rfl, Lib.toList_data ⟨#[47, 46, 100, 101, 102, 97, 117, 108, 116]⟩, hb])
      go_wp2
      go_ret
      exact ⟨retS HF.out.symm, rfl⟩
  · have h9b : decide ((9 : Int) ≤ (s.size : Int)) = false := decide_eq_false h9
    have HF : Hid (trimDef s = s) := Lib.trimSuffix_miss s ⟨#[47, 46, 100, 101, 102, 97, 117, 108, 116]⟩ (by
      rw [show (⟨#[47, 46, 100, 101, 102, 97, 117, 108, 116]⟩ : ByteArray).size = 9 from rfl, decide_eq_false (by omega), Bool.false_and])
    go_wp2
    go_ret
    exact ⟨retS HF.out.symm, rfl⟩

set_option maxRecDepth 100000 in
set_option maxHeartbeats 1000000 in
theorem isDef_walk (x r : ByteArray) (w : World) (hr : r.size ≤ 16777216) (hx : x.data.toList = r.data.toList ++ [47, 46, 100, 101, 102, 97, 117, 108, 116]) :
    Calls Tryd.prog 13 #[.string x, .string r] w fun e w' => e = .returned (.bool true) ∧ w' = w := by
  have hxs : x.size = r.size + 9 := by rw [Lib.size_eq, hx, List.length_append, ← Lib.size_eq]; rfl
  have h9 : (9 : Int) ≤ (x.size : Int) := by omega
  have hq : (((x.size : Int) - 9) == (r.size : Int)) = true := by rw [beq_iff_eq]; omega
  have h1 : ((x.extract 0 r.size).toList == r.toList) = true := by
    rw [Lib.extract_toList, hx, Lib.toList_data, beq_iff_eq, Lib.size_eq]
    simp
  have h2 : ((x.extract r.size x.size).toList == [47, 46, 100, 101, 102, 97, 117, 108, 116]) = true := by
    rw [Lib.extract_toList, hx, beq_iff_eq, hxs, Lib.size_eq]
    simp
  have h3 : (r.size : Int) ≤ (x.size : Int) := by omega
  rw [hxs] at h2
  clear hx
  go_enter Tryd.func13, Tryd.ntmps13
  go_wp2
  go_ret
  exact ⟨rfl, rfl⟩

/-! ### plain: the header -/
namespace Pl
theorem trimSpace_stay (b : UInt8) (l : List UInt8) (c : UInt8) (hb : b.toNat < 128) (hsb : Lib.isSpaceR b.toNat = false) (hc : c.toNat < 128) (hsc : Lib.isSpaceR c.toNat = false) : Lib.trimSpaceD (b :: (l ++ [c])) = b :: (l ++ [c]) := by
  unfold Lib.trimSpaceD
  rw [trimLeftD_stay _ b _ hb hsb, ← List.cons_append, trimRightD_stay _ c _ hc hsc]
theorem cut_sp (l r : List UInt8) (h : ∀ b ∈ l, b ≠ 32) : Lib.cut (l ++ 32 :: r) [32] = (l, r, true) := by
  have hi : Lib.indexByte (l ++ 32 :: r) 32 = l.length := by
    induction l with
    | nil => simp [Lib.indexByte]
    | cons b l ih =>
      have hb : (b == 32) = false := by simp [h b (by simp)]
      have ih' := ih (fun x hx => h x (by simp [hx]))
      rw [List.cons_append, Lib.indexByte, hb, ih']
      have : ((l.length : Int) == -1) = false := by rw [beq_eq_false_iff_ne]; omega
      simp [this]
  unfold Lib.cut
  rw [Lib.index_one, hi, if_pos (by omega)]
  simp
/-- What stands in the header behind the scheme. -/
def three (k a r s : List UInt8) : List (List UInt8 × List UInt8) := [(k, a), ([114, 101, 115, 111, 117, 114, 99, 101], r), ([115, 99, 111, 112, 101], s)]
def kName (u : Bool) : List UInt8 := if u then [97, 117, 116, 104, 111, 114, 105, 122, 97, 116, 105, 111, 110, 95, 117, 114, 105] else [97, 117, 116, 104, 111, 114, 105, 122, 97, 116, 105, 111, 110]
def scheme (p : Bool) : List UInt8 := if p then [66, 69, 65, 82, 69, 82] else [66, 101, 97, 114, 101, 114]
def restT (u : Bool) (a r s : List UInt8) : List UInt8 := built [] [44, 32] (three (kName u) a r s)
def header (p u : Bool) (a r s : List UInt8) : List UInt8 := scheme p ++ 32 :: restT u a r s
theorem run_three (u : Bool) (a r s : List UInt8) (es : List (List UInt8 × List UInt8)) (h : Run (restT u a r s) es) : es = three (kName u) a r s := by
  refine run_text (gap := []) (sep := [44, 32]) (E := []) (by simp) (by decide) (by simp) _ es ?_ (by rw [text_built, List.append_nil]; exact h)
  intro q hq
  simp only [three, List.mem_cons, List.not_mem_nil, or_false] at hq
  rcases hq with rfl | rfl | rfl
  · show ∀ c ∈ kName u, _
    cases u <;> decide
  · show ∀ c ∈ [114, 101, 115, 111, 117, 114, 99, 101], _
    decide
  · show ∀ c ∈ [115, 99, 111, 112, 101], _
    decide
theorem rest_split (u : Bool) (a r s : List UInt8) : restT u a r s = kName u ++ [61] ++ quote a ++ [44, 32, 114, 101, 115, 111, 117, 114, 99, 101, 61] ++ quote r ++ [44, 32, 115, 99, 111, 112, 101, 61] ++ quote s := by
  simp [restT, built, three, tailT, item]
theorem header_trim (p u : Bool) (a r s : List UInt8) : Lib.trimSpaceD (header p u a r s) = header p u a r s := by
  have e : ∃ l, header p u a r s = 66 :: (l ++ [34]) := by
    refine ⟨(scheme p).tail ++ 32 :: (kName u ++ [61] ++ quote a ++ [44, 32, 114, 101, 115, 111, 117, 114, 99, 101, 61] ++ quote r ++ [44, 32, 115, 99, 111, 112, 101, 61] ++ 34 :: escs s), ?_⟩
    unfold header
    rw [rest_split]
    cases p <;> simp [scheme, quote]
  obtain ⟨l, hl⟩ := e
  rw [hl]
  exact trimSpace_stay 66 l 34 (by decide) (by decide) (by decide) (by decide)
theorem header_cut (p u : Bool) (a r s : List UInt8) : Lib.cut (header p u a r s) [32] = (scheme p, restT u a r s, true) := by
  unfold header
  exact cut_sp _ _ (by cases p <;> decide)
section
variable {H : Type}
theorem three_look (u : Bool) (a r s : List UInt8) (z : DataW H) :
    (fillM (.map []) (three (kName u) a r s)).atKey (.string [97, 117, 116, 104, 111, 114, 105, 122, 97, 116, 105, 111, 110]) z = (if u then z else .lit (.string a)) ∧
    (fillM (.map []) (three (kName u) a r s)).atKey (.string [97, 117, 116, 104, 111, 114, 105, 122, 97, 116, 105, 111, 110, 95, 117, 114, 105]) z = (if u then .lit (.string a) else z) ∧
    (fillM (.map []) (three (kName u) a r s)).atKey (.string [114, 101, 115, 111, 117, 114, 99, 101]) z = .lit (.string r) ∧
    (fillM (.map []) (three (kName u) a r s)).atKey (.string [115, 99, 111, 112, 101]) z = .lit (.string s) := by
  refine ⟨?_, ?_, ?_, ?_⟩
  · cases u
    · exact (fillM_last [] [([114, 101, 115, 111, 117, 114, 99, 101], r), ([115, 99, 111, 112, 101], s)] _ a (by simp [keys, kName]) z).1
    · rw [atKey_fillM_not _ z _ _ (by simp [keys, three, kName])]; rfl
  · cases u
    · rw [atKey_fillM_not _ z _ _ (by simp [keys, three, kName])]; rfl
    · exact (fillM_last [] [([114, 101, 115, 111, 117, 114, 99, 101], r), ([115, 99, 111, 112, 101], s)] _ a (by simp [keys, kName]) z).1
  · exact (fillM_last [(kName u, a)] [([115, 99, 111, 112, 101], s)] _ r (by simp [keys]) z).1
  · exact (fillM_last [(kName u, a), ([114, 101, 115, 111, 117, 114, 99, 101], r)] [] _ s (by simp [keys]) z).1
end
theorem fold_scheme (p : Bool) : Lib.equalFold (scheme p) [66, 101, 97, 114, 101, 114] = true := by cases p <;> decide
theorem ascii_scheme (p : Bool) : ∀ (j : Nat) b, (scheme p)[j]? = some b → b.toNat < 128 := by
  have h : ∀ b ∈ scheme p, b.toNat < 128 := by cases p <;> decide
  exact fun j b hb => h b (List.mem_of_getElem? hb)
end Pl
end Go.Proofs.Qxb6606102aDoor
