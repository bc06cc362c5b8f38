import Derived.Test.Qxb6614551aDoorNextNl
import Derived.Test.Qxb6614551aDoorNextLet
import Derived.Test.Qxb6614551aDoorNextDig
import Derived.Test.Qxb6614551aDoorNextS39
import Derived.Test.Qxb6614551aDoorNextS34
import Derived.Test.Qxb6614551aDoorNextPun
import Derived.Test.Qxb6614551aDoorParser
namespace Go.Proofs.Qxb6614551aDoor
open Go.RowKit

theorem next_walk : NextW := by
  intro bs f S o ln ls w hsc ho hS hln hls hU
  cases hd : S.data.toList.drop (o + Pl.skipN false (S.data.toList.drop o)) with
  | nil => exact next_nl bs f S o ln ls w hsc ho hS hln hls (fun c l h => by rw [hd] at h; cases h)
  | cons c l =>
    by_cases h10 : c.toNat = 10
    · exact next_nl bs f S o ln ls w hsc ho hS hln hls (fun c' l' h => by rw [hd] at h; injection h with h1 _; rw [← h1]; exact h10)
    · cases hl : Pl.isLet c with
      | true => exact next_let bs f S o ln ls w hsc ho hS hln hls c l hd h10 hl
      | false =>
        cases hg : Pl.isDig c with
        | true => exact next_dig bs f S o ln ls w hsc ho hS hln hls c l hd h10 hl hg
        | false =>
          by_cases h39 : c.toNat = 39
          · exact next_s39 bs f S o ln ls w hsc ho hS hln hls c l hd h10 hl hg h39
          · by_cases h34 : c.toNat = 34
            · exact next_s34 bs f S o ln ls w hsc ho hS hln hls c l hd h10 hl hg h34
            · exact next_pun bs f S o ln ls w hsc ho hS hln hls c l hd h10 hl hg h39 h34 hU
end Go.Proofs.Qxb6614551aDoor
