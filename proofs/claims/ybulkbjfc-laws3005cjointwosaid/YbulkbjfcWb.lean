import Derived.Test.YbulkbjfcRows
import Derived.WalkKit
import Derived.WalkSpells
import Derived.WalkLawsBesides
namespace Go.Proofs.Ybulkbjfc
open Go.RowKit

/-- whether the step (sq, sd) can follow the step (aq, ad) of an entry (dq, dd) -/
def fitsB (dq dd aq ad sq sd : Int) : Bool := decide (aq < sq) && decide (sq < dq) && decide (sd < if aq = 0 then dd else ad)

theorem ret_bool {a b : Bool} (h : a = b) : Ending.returned (.bool a) = .returned (.bool b) := by rw [h]

set_option maxHeartbeats 400000 in
theorem stepFits_any (s0 s1 s2 : ByteArray) (dq dd dp aq ad sq sd : Int) (w : World) :
    Calls Yba.prog 23 #[.agg #[.string s0, .int .u64 dq, .int .i64 dd, .int .u64 dp], .agg #[.string s1, .int .u64 aq, .int .i64 ad], .agg #[.string s2, .int .u64 sq, .int .i64 sd]] w
      fun e w' => e = .returned (.bool (fitsB dq dd aq ad sq sd)) ∧ Below w.heap.size w w' := by
  go_enter Yba.func23, Yba.ntmps23
  go_wp2
  all_goals
    go_ret
    refine ⟨ret_bool ?_, (((Below.refl _ _).alloc (Nat.le_refl _) _).alloc (by simp) _).alloc (by simp; omega) _⟩
    simp only [fitsB]
    simp_all
    try omega

theorem stepFits_yes (s0 s1 s2 : ByteArray) (dq dd dp aq ad sq sd : Int) (w : World) (h : fitsB dq dd aq ad sq sd = true) :
    Calls Yba.prog 23 #[.agg #[.string s0, .int .u64 dq, .int .i64 dd, .int .u64 dp], .agg #[.string s1, .int .u64 aq, .int .i64 ad], .agg #[.string s2, .int .u64 sq, .int .i64 sd]] w
      fun e w' => e = .returned (.bool true) ∧ Below w.heap.size w w' := h ▸ stepFits_any s0 s1 s2 dq dd dp aq ad sq sd w
theorem stepFits_no (s0 s1 s2 : ByteArray) (dq dd dp aq ad sq sd : Int) (w : World) (h : fitsB dq dd aq ad sq sd = false) :
    Calls Yba.prog 23 #[.agg #[.string s0, .int .u64 dq, .int .i64 dd, .int .u64 dp], .agg #[.string s1, .int .u64 aq, .int .i64 ad], .agg #[.string s2, .int .u64 sq, .int .i64 sd]] w
      fun e w' => e = .returned (.bool false) ∧ Below w.heap.size w w' := h ▸ stepFits_any s0 s1 s2 dq dd dp aq ad sq sd w

end Go.Proofs.Ybulkbjfc
