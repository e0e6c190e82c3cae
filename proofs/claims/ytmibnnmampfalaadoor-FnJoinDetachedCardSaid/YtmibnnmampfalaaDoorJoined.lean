/- The walk of FnPartJoined. -/
import Derived.Test.YtmibnnmampfalaaDoorB64Y
namespace Go.Proofs.YtmibnnmampfalaaDoor
open Go.RowKit
set_option linter.unusedVariables false
set_option linter.unusedSimpArgs false

theorem Came.arg {w : World} {a : Option Addr} {len cap : Nat} {l : List Int} (h : Came .u8 w a len cap l) : ArgB w a len cap l := ⟨h.rd, h.hlen, h.hcap, h.nil, h.isB⟩
end Go.Proofs.YtmibnnmampfalaaDoor
