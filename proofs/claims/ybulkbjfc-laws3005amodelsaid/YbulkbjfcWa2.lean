import Derived.Test.YbulkbjfcWa
import Derived.Test.YbulkbjfcShelf
import Derived.Laws.IdiomStrings
namespace Go.Proofs.Ybulkbjfc.TA
open Go.RowKit

set_option maxHeartbeats 400000 in
theorem sourceField_core (g p el ec vl sz sn sc : Nat) (so : Option Addr) (w : World) (hp : p < el) (hec : el ≤ ec) (hel : el ≤ 4194304) (hsz : p + vl + sz < el)
    (hU : ∀ W, Below w.heap.size w W → Calls Yba.prog 30 #[.slice (some ⟨g, p, none⟩) (el - p) (ec - p)] W fun e w' => e = .returned (.tuple #[.int .u64 sz, .int .i64 vl]) ∧ w' = W) :
    Calls Yba.prog 31 #[.agg #[.slice (some ⟨g, 0, none⟩) el ec, .slice so sn sc], .int .u32 p] w fun e w' => e = .returned (.slice (some ⟨g, p, none⟩) (vl + sz) (ec - p)) ∧ Below w.heap.size w w' := by
  have b1 : (p : Int) ≤ (el : Int) := by omega
  go_enter Yba.func31, Yba.ntmps31
  go_wp2_with fail
  refine (hU _ ((Below.refl _ _).alloc (Nat.le_refl _) _)).mono ?_
  rintro e w1 ⟨rfl, rfl⟩
  have b2 : (vl : Int) + (sz : Int) ≤ ((ec - p : Nat) : Int) := by omega
  have b3 : (0 : Int) ≤ (vl : Int) + (sz : Int) := by omega
  go_wp2
  go_ret
  refine ⟨?_, (Below.refl _ _).alloc (Nat.le_refl _) _⟩
  congr 2

set_option maxHeartbeats 400000 in
theorem source_core (g p el ec vl sz sn sc : Nat) (so : Option Addr) (w : World) (hp : p < el) (hec : el ≤ ec) (hel : el ≤ 4194304) (hsz : p + vl + sz < el)
    (hU : ∀ W, Below w.heap.size w W → Calls Yba.prog 30 #[.slice (some ⟨g, p, none⟩) (el - p) (ec - p)] W fun e w' => e = .returned (.tuple #[.int .u64 sz, .int .i64 vl]) ∧ w' = W)
    (hV : ∀ W, Below w.heap.size w W → Calls Yba.prog 30 #[.slice (some ⟨g, p, none⟩) (vl + sz) (ec - p)] W fun e w' => e = .returned (.tuple #[.int .u64 sz, .int .i64 vl]) ∧ w' = W) :
    Calls Yba.prog 29 #[.agg #[.slice (some ⟨g, 0, none⟩) el ec, .slice so sn sc], .int .u32 p] w fun e w' => e = .returned (.slice (some ⟨g, p + vl, none⟩) sz (ec - p - vl)) ∧ Below w.heap.size w w' := by
  go_enter Yba.func29, Yba.ntmps29
  go_wp2_with fail
  have hb0 : Below w.heap.size w (w.alloc (Obj.cells #[Value.slice (some { block := g, off := 0 }) el ec, Value.slice so sn sc] 29)) := (Below.refl _ _).alloc (Nat.le_refl _) _
  refine (sourceField_core g p el ec vl sz sn sc so _ hp hec hel hsz (fun W hW => hU W (hb0.trans (hW.mono (by simp))))).mono ?_
  rintro e w1 ⟨rfl, hb1⟩
  have hb2 := hb0.trans (hb1.mono (by simp))
  clear hb0 hb1
  go_wp2_with fail
  refine (hV _ hb2).mono ?_
  rintro e w2 ⟨rfl, rfl⟩
  have b2 : (vl : Int) ≤ ((vl + sz : Nat) : Int) := by omega
  go_wp2
  go_ret
  exact ⟨rfl, hb2⟩

/-- three ways of comparing two strings -/
def cmpI (x y : ByteArray) : Int := if Op.bytesLess x.toList y.toList then -1 else if x.toList == y.toList then 0 else 1

set_option maxRecDepth 4000 in
set_option maxHeartbeats 400000 in
theorem get1_core (g p el ec vl sz sn sc tb : Nat) (so : Option Addr) (s src : ByteArray) (w : World) (hp : p < el) (hec : el ≤ ec) (hel : el ≤ 4194304) (hsz : p + vl + sz < el)
    (ht0 : w.cell? ⟨tb, 0, none⟩ = some (.slice (some ⟨g, 0, none⟩) el ec)) (ht1 : w.cell? ⟨tb, 1, none⟩ = some (.slice so sn sc))
    (hU : ∀ W, Below w.heap.size w W → Calls Yba.prog 30 #[.slice (some ⟨g, p, none⟩) (el - p) (ec - p)] W fun e w' => e = .returned (.tuple #[.int .u64 sz, .int .i64 vl]) ∧ w' = W)
    (hV : ∀ W, Below w.heap.size w W → Calls Yba.prog 30 #[.slice (some ⟨g, p, none⟩) (vl + sz) (ec - p)] W fun e w' => e = .returned (.tuple #[.int .u64 sz, .int .i64 vl]) ∧ w' = W)
    (hC : ∀ W, Below w.heap.size w W → (convert 26 9 (.slice (some ⟨g, p + vl, none⟩) sz (ec - p - vl))).run Yba.prog W = .ok (.string s) W) :
    Calls Yba.prog 28 #[.int .u32 p, .string src, .pointer (some ⟨tb, 0, none⟩)] w fun e w' => e = .returned (.int .i64 (cmpI s src)) ∧ Below w.heap.size w w' := by
  go_enter Yba.func28, Yba.ntmps28
  go_wp2_with fail
  refine (source_core g p el ec vl sz sn sc so _ hp hec hel hsz hU hV).mono ?_
  rintro e w1 ⟨rfl, hb1⟩
  have hc := hC w1 hb1
  clear hU hV hC
  go_wp2
  all_goals
    go_ret
    refine ⟨ret_int ?_, hb1⟩
    clear hc
    unfold cmpI
    first
      | (rw [if_pos (by assumption)]; done)
      | (rw [if_neg (by simp [*])]; simp_all; done)

end Go.Proofs.Ybulkbjfc.TA
