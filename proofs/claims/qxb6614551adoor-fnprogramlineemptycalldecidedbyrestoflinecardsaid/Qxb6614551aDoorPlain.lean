import Derived.Shelf.Unicode.DecodeAny
import Derived.Shelf.Unicode.DecodeLastEight
namespace Go.Proofs.Qxb6614551aDoor
namespace Pl

def isLet (c : UInt8) : Bool := decide (97 ≤ c.toNat ∧ c.toNat ≤ 122 ∨ 65 ≤ c.toNat ∧ c.toNat ≤ 90 ∨ c.toNat = 95)
def isDig (c : UInt8) : Bool := decide (48 ≤ c.toNat ∧ c.toNat ≤ 57)
def identC (c : UInt8) : Bool := isLet c || isDig c || c == 36
def alnum (c : UInt8) : Bool := isLet c || isDig c
def blank (c : UInt8) : Bool := c == 32 || c == 9 || c == 13

/-- how many bytes next passes over ahead of a token; true: inside a comment -/
def skipN : Bool → List UInt8 → Nat
  | _, [] => 0
  | false, c :: l => if blank c then 1 + skipN false l else if c = 35 then 1 + skipN true l else 0
  | true, c :: l => if c = 10 then 0 else 1 + skipN true l
/-- how far a string's body runs -/
def strN (q : UInt8) : List UInt8 → Nat
  | [] => 0
  | [c] => if c = 10 then 0 else 1
  | c :: d :: l => if c = 10 then 0 else if c = 92 ∧ d ≠ 10 then 2 + strN q l else if c = q then 1 else 1 + strN q (d :: l)
def width (l : List UInt8) : Nat := (Lib.decodeGo ⟨l.toArray⟩).2
/-- kind and length of the token at hand -/
def tokN : List UInt8 → Nat × Nat
  | [] => (0, 0)
  | c :: l => if c = 10 then (1, 1) else if isLet c then (2, 1 + (l.takeWhile identC).length) else if isDig c then (3, 1 + (l.takeWhile alnum).length)
    else if c = 39 ∨ c = 34 then (6, 1 + strN c l) else (4, width (c :: l))
/-- next's answer: the kind, the text, how many bytes it has taken -/
def scan (l : List UInt8) : Nat × List UInt8 × Nat :=
  let r := l.drop (skipN false l)
  ((tokN r).1, r.take (tokN r).2, skipN false l + (tokN r).2)

theorem skipN_le : ∀ (b : Bool) (l : List UInt8), skipN b l ≤ l.length
  | b, [] => by cases b <;> simp [skipN]
  | false, c :: l => by
    have h1 := skipN_le false l
    have h2 := skipN_le true l
    unfold skipN
    split
    · simp; omega
    · split
      · simp; omega
      · simp
  | true, c :: l => by
    have h2 := skipN_le true l
    unfold skipN
    split
    · simp
    · simp; omega
theorem strN_le (q : UInt8) : ∀ (n : Nat) (l : List UInt8), l.length ≤ n → strN q l ≤ l.length := by
  intro n
  induction n with
  | zero =>
    intro l hn
    match l, hn with
    | [], _ => simp [strN]
    | c :: l, hn => simp at hn
  | succ n ih =>
    intro l hn
    match l, hn with
    | [], _ => simp [strN]
    | [c], _ => unfold strN; split <;> simp
    | c :: d :: l, hn =>
      have hn' : l.length + 2 ≤ n + 1 := by simpa using hn
      have h1 := ih l (by omega)
      have h2 := ih (d :: l) (by simp; omega)
      simp only [List.length_cons] at h2 ⊢
      unfold strN
      split
      · omega
      · split
        · omega
        · split <;> omega
theorem width_le (c : UInt8) (l : List UInt8) : width (c :: l) ≤ (c :: l).length := by
  have := Lib.decodeGo_le_size ⟨(c :: l).toArray⟩
  rw [Lib.size_eq] at this
  exact this
theorem tokN_le (l : List UInt8) : (tokN l).2 ≤ l.length := by
  cases l with
  | nil => simp [tokN]
  | cons c l =>
    have h1 := (List.takeWhile_prefix (p := identC) (l := l)).length_le
    have h2 := (List.takeWhile_prefix (p := alnum) (l := l)).length_le
    have h3 := strN_le c l.length l (Nat.le_refl _)
    have h4 := width_le c l
    unfold tokN
    simp only [List.length_cons] at *
    repeat' split
    all_goals simp only
    all_goals omega
end Pl
end Go.Proofs.Qxb6614551aDoor
