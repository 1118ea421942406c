/- The law's call: whatever the input, it answers true, and what was there before is as it was. -/
import Derived.Test.YbulkcvteFmtW0
import Derived.Test.YbulkcvteFmtW4
import Derived.Test.YbulkcvteFmtW5
import Derived.Test.YbulkcvteFmtW9
import Derived.Test.YbulkcvteFmtW11
import Derived.Test.YbulkcvteFmtW15
import Derived.Test.YbulkcvteFmtW16
import Derived.Test.YbulkcvteFmtW18
import Derived.Test.YbulkcvteFmtW21
import Derived.Test.YbulkcvteFmtW29
import Derived.Test.YbulkcvteFmtW30
import Derived.Test.YbulkcvteFmtW32
import Derived.Test.YbulkcvteFmtW33
import Derived.Test.YbulkcvteFmtW36
import Derived.Test.YbulkcvteFmtW37
namespace Go.Proofs.YbulkcvteFmt
open Go.RowKit
set_option linter.unusedVariables false

set_option maxRecDepth 100000 in
set_option maxHeartbeats 16000000 in
theorem law3 (sm pm hh mm md vv bv cb qb : Nat) (a2 a7 : Option Addr) (l2 c2 l7 c7 : Nat) (r2 r7 : Nat → Nat) (w : World) (hsm : sm < 65536) (hpm : pm < 65536) (hhh : hh < 18446744073709551616) (hmm : mm < 65536) (hmd : md < 256) (hvv : vv < 256) (hbv : bv < 4294967296) (hcb : cb < 256) (hqb : qb < 256)
    (h2 : BytesAt w a2 l2 r2) (h7 : BytesAt w a7 l7 r7) (h0 : 0 < w.heap.size) (htag : w.cell? ⟨0, 13, none⟩ = some (.string tagB)) :
    Calls Ybaf.prog 3 #[.int .u16 sm, .int .u16 pm, .slice a2 l2 c2, .int .u64 hh, .int .u16 mm, .int .u8 md, .int .u8 vv, .slice a7 l7 c7, .int .u32 bv, .int .u8 cb, .int .u8 qb] w (LawPost w) := by
  have ha : ({ tmps := #[.int .u16 sm, .int .u16 pm, .slice a2 l2 c2, .int .u64 hh, .int .u16 mm, .int .u8 md, .int .u8 vv, .slice a7 l7 c7, .int .u32 bv, .int .u8 cb, .int .u8 qb] ++ Array.replicate (Ybaf.f3.ntmps - 11) undef, defers := [] } : Act) = { tmps := #[.int .u16 sm, .int .u16 pm, .slice a2 l2 c2, .int .u64 hh, .int .u16 mm, .int .u8 md, .int .u8 vv, .slice a7 l7 c7, .int .u32 bv, .int .u8 cb, .int .u8 qb, undef, undef, undef, undef, undef, undef, undef, undef, undef, undef, undef, undef, undef, undef, undef, undef, undef, undef, undef, undef, undef, undef, undef, undef, undef, undef, undef, undef, undef, undef, undef, undef, undef, undef, undef, undef, undef, undef, undef, undef, undef, undef, undef, undef, undef, undef, undef, undef, undef, undef, undef, undef, undef, undef, undef, undef, undef, undef, undef, undef, undef, undef, undef, undef, undef, undef, undef, undef, undef, undef, undef, undef, undef, undef, undef, undef, undef, undef, undef, undef, undef, undef, undef, undef, undef, undef, undef, undef, undef, undef, undef, undef, undef, undef, undef, undef, undef, undef, undef, undef, undef, undef, undef, undef, undef, undef, undef, undef, undef, undef, undef, undef, undef, undef, undef, undef, undef, undef, undef, undef, undef, undef, undef, undef, undef, undef, undef, undef, undef, undef, undef, undef, undef, undef, undef, undef, undef, undef, undef, undef, undef, undef, undef, undef, undef, undef, undef, undef, undef, undef, undef, undef, undef, undef, undef, undef, undef, undef, undef, undef, undef, undef, undef, undef, undef, undef, undef, undef, undef, undef, undef, undef, undef, undef, undef, undef, undef, undef, undef, undef, undef, undef, undef, undef, undef, undef, undef, undef, undef, undef, undef, undef, undef, undef, undef, undef, undef, undef, undef, undef, undef, undef, undef, undef, undef, undef, undef, undef, undef, undef, undef, undef, undef, undef, undef, undef, undef, undef, undef, undef, undef, undef, undef, undef, undef, undef, undef, undef, undef, undef, undef, undef, undef, undef, undef, undef, undef, undef, undef, undef, undef, undef, undef, undef, undef, undef, undef, undef, undef, undef, undef, undef, undef, undef, undef, undef, undef, undef, undef, undef, undef, undef, undef, undef, undef, undef, undef, undef, undef, undef, undef, undef, undef, undef, undef, undef, undef, undef, undef, undef, undef, undef, undef, undef, undef, undef, undef, undef, undef, undef, undef, undef, undef, undef, undef, undef, undef, undef, undef, undef, undef, undef, undef, undef, undef, undef, undef, undef, undef, undef, undef, undef, undef, undef, undef, undef, undef, undef, undef, undef, undef, undef, undef, undef, undef, undef, undef, undef, undef, undef, undef, undef, undef, undef, undef, undef, undef, undef, undef, undef, undef, undef, undef, undef, undef, undef, undef, undef, undef, undef, undef, undef, undef, undef, undef, undef, undef, undef, undef, undef, undef, undef, undef, undef, undef, undef, undef, undef, undef, undef, undef, undef, undef, undef, undef, undef, undef, undef, undef, undef, undef, undef, undef, undef, undef, undef, undef, undef, undef, undef, undef, undef, undef, undef, undef, undef, undef, undef, undef, undef, undef, undef, undef, undef, undef, undef, undef, undef, undef, undef, undef, undef, undef], defers := [] } := by
    simp only [Ybaf.ntmps3, Nat.reduceSub, Array.replicate_succ, Array.replicate_zero, List.push_toArray, List.append_toArray, List.nil_append, List.cons_append]
  refine law_start ha ?_
  by_cases hl : l2 ≤ 1024 ∧ l7 ≤ 1024
  · have hI : Inp w sm pm hh mm md vv bv cb qb a2 a7 l2 l7 r2 r7 := ⟨hl.1, hl.2, hsm, hpm, hhh, hmm, hmd, hvv, hbv, hcb, hqb, h2, h7, h0, htag⟩
    exact st0 sm pm hh mm md vv bv cb qb a2 a7 l2 c2 l7 c7 r2 r7 w hI (st4 sm pm hh mm md vv bv cb qb a2 a7 l2 c2 l7 c7 r2 r7 w hI (st5 sm pm hh mm md vv bv cb qb a2 a7 l2 c2 l7 c7 r2 r7 w hI (st9 sm pm hh mm md vv bv cb qb a2 a7 l2 c2 l7 c7 r2 r7 w hI (st11 sm pm hh mm md vv bv cb qb a2 a7 l2 c2 l7 c7 r2 r7 w hI (st15 sm pm hh mm md vv bv cb qb a2 a7 l2 c2 l7 c7 r2 r7 w hI (st16 sm pm hh mm md vv bv cb qb a2 a7 l2 c2 l7 c7 r2 r7 w hI (st18 sm pm hh mm md vv bv cb qb a2 a7 l2 c2 l7 c7 r2 r7 w hI (st21 sm pm hh mm md vv bv cb qb a2 a7 l2 c2 l7 c7 r2 r7 w hI (st29 sm pm hh mm md vv bv cb qb a2 a7 l2 c2 l7 c7 r2 r7 w hI (st30 sm pm hh mm md vv bv cb qb a2 a7 l2 c2 l7 c7 r2 r7 w hI (st32 sm pm hh mm md vv bv cb qb a2 a7 l2 c2 l7 c7 r2 r7 w hI (st33 sm pm hh mm md vv bv cb qb a2 a7 l2 c2 l7 c7 r2 r7 w hI (st36 sm pm hh mm md vv bv cb qb a2 a7 l2 c2 l7 c7 r2 r7 w hI (st37 sm pm hh mm md vv bv cb qb a2 a7 l2 c2 l7 c7 r2 r7 w hI))))))))))))))
  · exact st0big sm pm hh mm md vv bv cb qb a2 a7 l2 c2 l7 c7 r2 r7 w (by omega)
end Go.Proofs.YbulkcvteFmt
