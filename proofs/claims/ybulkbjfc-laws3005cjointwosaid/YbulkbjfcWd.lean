import Derived.Test.YbulkbjfcWc5
import Derived.RegionTactic
import Derived.BigRegion
import Derived.Lib.SliceRun
import Derived.Deep.QuietTactic
import Derived.BigQuiet
namespace Go.Proofs.Ybulkbjfc.TC
open Go.RowKit

set_option maxHeartbeats 400000 in
theorem less_any (x y : Int) (w : World) : Calls Yba.prog 45 #[.int .u64 x, .int .u64 y] w fun e w' => e = .returned (.bool (decide (x < y))) ∧ w' = w := by
  go_enter Yba.func45, Yba.ntmps45
  go_wp2
  go_ret
  exact ⟨rfl, rfl⟩

set_option maxRecDepth 20000 in
set_option maxHeartbeats 400000 in
theorem len_two (w : World) : Calls Yba.prog 37 #[.int .u64 2] w fun e w' => (∃ v, e = .returned (.int .i64 v)) ∧ w' = w := by
  go_enter Yba.func37, Yba.ntmps37
  go_wp2
  go_ret
  exact ⟨⟨_, rfl⟩, rfl⟩

/-- two cells in their order -/
def Two (b : Nat) (x y : Int) (B : Nat) (w w' : World) : Prop :=
  w'.cell? ⟨b, 0, none⟩ = some (.int .u64 (min x y)) ∧ w'.cell? ⟨b, 1, none⟩ = some (.int .u64 (max x y)) ∧ (∀ a, a.block ≠ b → w'.cell? a = w.cell? a) ∧ (∀ a, a.block ≠ b → w'.frozen? a = w.frozen? a) ∧ w'.heap.size = w.heap.size ∧ Below B w w'

theorem two_same {b : Nat} {x y : Int} {B : Nat} {w : World} (h : ¬ y < x) (h0 : w.cell? ⟨b, 0, none⟩ = some (.int .u64 x)) (h1 : w.cell? ⟨b, 1, none⟩ = some (.int .u64 y)) (n : Nat) : Two b x y B w (w.drewN n) := by
  refine ⟨?_, ?_, fun _ _ => rfl, fun _ _ => rfl, rfl, below_drewN (Below.refl _ _) _⟩
  · rw [Int.min_eq_left (by omega)]; exact h0
  · rw [Int.max_eq_right (by omega)]; exact h1
theorem two_swap {b : Nat} {x y : Int} {B : Nat} {w : World} (h : y < x) (hB : B ≤ b) (h0 : w.cell? ⟨b, 0, none⟩ = some (.int .u64 x)) (h1 : w.cell? ⟨b, 1, none⟩ = some (.int .u64 y)) (m n : Nat) :
    Two b x y B w ((((w.drewN m).setCell ⟨b, 1, none⟩ (.int .u64 x)).setCell ⟨b, 0, none⟩ (.int .u64 y)).drewN n) := by
  have g0 : (w.drewN m).cell? ⟨b, 0, none⟩ = some (.int .u64 x) := h0
  have g1 : (w.drewN m).cell? ⟨b, 1, none⟩ = some (.int .u64 y) := h1
  refine ⟨?_, ?_, fun a ha => ?_, fun a ha => ?_, by simp [World.setCell, World.drewN], below_drewN (((below_drewN (Below.refl _ _) _).setCell hB _).setCell hB _) _⟩
  · rw [Int.min_eq_right (by omega)]
    show ((((w.drewN m).setCell ⟨b, 1, none⟩ (.int .u64 x)).setCell ⟨b, 0, none⟩ (.int .u64 y))).cell? ⟨b, 0, none⟩ = _
    rw [World.cell?_setCell_same (u := .int .u64 x)]
    rw [World.cell?_setCell_other, g0]; simp
  · rw [Int.max_eq_left (by omega)]
    show ((((w.drewN m).setCell ⟨b, 1, none⟩ (.int .u64 x)).setCell ⟨b, 0, none⟩ (.int .u64 y))).cell? ⟨b, 1, none⟩ = _
    rw [World.cell?_setCell_other, World.cell?_setCell_same _ _ _ g1]; simp
  · show ((((w.drewN m).setCell ⟨b, 1, none⟩ (.int .u64 x)).setCell ⟨b, 0, none⟩ (.int .u64 y))).cell? a = w.cell? a
    rw [World.cell?_setCell_other, World.cell?_setCell_other]
    · rfl
    · intro e; exact ha (by rw [← e])
    · intro e; exact ha (by rw [← e])
  · show ((((w.drewN m).setCell ⟨b, 1, none⟩ (.int .u64 x)).setCell ⟨b, 0, none⟩ (.int .u64 y))).frozen? a = w.frozen? a
    rw [World.frozen?_setCell, World.frozen?_setCell]
    rfl

set_option maxHeartbeats 400000 in
theorem isort_two (b c : Nat) (x y : Int) (B : Nat) (w : World) (hB : B ≤ b) (h0 : w.cell? ⟨b, 0, none⟩ = some (.int .u64 x)) (h1 : w.cell? ⟨b, 1, none⟩ = some (.int .u64 y)) (f0 : w.frozen? ⟨b, 0, none⟩ = false) (f1 : w.frozen? ⟨b, 1, none⟩ = false) :
    Calls Yba.prog 39 #[.slice (some ⟨b, 0, none⟩) 2 c, .int .i64 0, .int .i64 2] w fun e w' => e = .returned (.tuple #[]) ∧ Two b x y B w w' := by
  go_enter Yba.func39, Yba.ntmps39
  go_wp2
  refine wp_loop_rounds 2 ?_
  rw [rounds_succ]
  go_wp2
  refine wp_loop_rounds 2 ?_
  rw [rounds_succ]
  by_cases h : y < x
  · go_wp2
    go_quiet (first | (go_at_call 45; exact Calls.quiet_of_same (less_any _ _ _)))
    go_wp2
    go_region
    go_wp2
    rw [rounds_succ]
    go_wp2
    go_quiet (fail)
    go_wp2
    rw [rounds_succ]
    go_wp2
    go_end0
    refine ⟨rfl, ?_⟩
    exact two_swap h hB h0 h1 _ _
  · go_wp2
    go_quiet (first | (go_at_call 45; exact Calls.quiet_of_same (less_any _ _ _)))
    go_wp2
    rw [rounds_succ]
    go_wp2
    go_end0
    refine ⟨rfl, ?_⟩
    exact two_same (by omega) h0 h1 _

set_option maxHeartbeats 400000 in
theorem pdq_two (b c : Nat) (x y l : Int) (B : Nat) (w : World) (hB : B ≤ b) (h0 : w.cell? ⟨b, 0, none⟩ = some (.int .u64 x)) (h1 : w.cell? ⟨b, 1, none⟩ = some (.int .u64 y)) (f0 : w.frozen? ⟨b, 0, none⟩ = false) (f1 : w.frozen? ⟨b, 1, none⟩ = false) :
    Calls Yba.prog 36 #[.slice (some ⟨b, 0, none⟩) 2 c, .int .i64 0, .int .i64 2, .int .i64 l] w fun e w' => e = .returned (.tuple #[]) ∧ Two b x y B w w' := by
  go_enter Yba.func36, Yba.ntmps36
  go_wp2_with fail
  refine wp_loop_rounds 1 ?_
  rw [rounds_succ]
  go_wp2_with fail
  refine (isort_two b c x y B w hB h0 h1 f0 f1).mono ?_
  rintro e w1 ⟨rfl, ht⟩
  go_wp2
  exact bodyPost_ret (v := .tuple #[]) (by simp [results, Yba.results36, go_sem]) rfl ⟨rfl, ht⟩

set_option maxHeartbeats 400000 in
theorem sort_two (b c : Nat) (x y : Int) (B : Nat) (w : World) (hB : B ≤ b) (h0 : w.cell? ⟨b, 0, none⟩ = some (.int .u64 x)) (h1 : w.cell? ⟨b, 1, none⟩ = some (.int .u64 y)) (f0 : w.frozen? ⟨b, 0, none⟩ = false) (f1 : w.frozen? ⟨b, 1, none⟩ = false) :
    Calls Yba.prog 33 #[.slice (some ⟨b, 0, none⟩) 2 c] w fun e w' => e = .returned (.tuple #[]) ∧ Two b x y B w w' := by
  go_enter Yba.func33, Yba.ntmps33
  go_wp2_with fail
  refine (len_two w).mono ?_
  rintro e w1 ⟨⟨l, rfl⟩, rfl⟩
  go_wp2_with fail
  refine (pdq_two b c x y l B _ hB h0 h1 f0 f1).mono ?_
  rintro e w1 ⟨rfl, ht⟩
  go_wp2
  go_end0
  exact ⟨rfl, ht⟩

set_option maxHeartbeats 400000 in
/-- what an entry without steps holds back a node that has reached r -/
theorem reach_none (q d p r : Int) (so : Option Addr) (sc : Nat) (w : World) :
    Calls Yba.prog 34 #[.agg #[.int .u64 q, .int .i64 d, .int .u64 p, .slice so 0 sc], .int .u64 r] w fun e w' => e = .returned (.int .i64 (if q ≤ r then -9223372036854775808 else d)) ∧ Below w.heap.size w w' := by
  by_cases h : q ≤ r
  · rw [if_pos h]
    go_enter Yba.func34, Yba.ntmps34
    go_wp2
    go_ret
    exact ⟨rfl, (Below.refl _ _).alloc (Nat.le_refl _) _⟩
  · rw [if_neg h]
    go_enter Yba.func34, Yba.ntmps34
    go_wp2
    go_ret
    exact ⟨rfl, (Below.refl _ _).alloc (Nat.le_refl _) _⟩

set_option maxHeartbeats 400000 in
theorem covers_none (q d p q' d' p' : Int) (so so' : Option Addr) (sc sc' : Nat) (w : World) (h : q' ≤ q) :
    Calls Yba.prog 35 #[.agg #[.int .u64 q, .int .i64 d, .int .u64 p, .slice so 0 sc], .agg #[.int .u64 q', .int .i64 d', .int .u64 p', .slice so' 0 sc']] w fun e w' => e = .returned (.bool (decide (d' ≤ d))) ∧ Below w.heap.size w w' := by
  go_enter Yba.func35, Yba.ntmps35
  go_wp2
  go_ret
  exact ⟨rfl, ((Below.refl _ _).alloc (Nat.le_refl _) _).alloc (by simp) _⟩

set_option maxHeartbeats 400000 in
theorem stands_none (q d p q' d' p' : Int) (so so' : Option Addr) (sc sc' : Nat) (w : World) :
    Calls Yba.prog 32 #[.agg #[.int .u64 q, .int .i64 d, .int .u64 p, .slice so 0 sc], .agg #[.int .u64 q', .int .i64 d', .int .u64 p', .slice so' 0 sc']] w fun e w' => e = .returned (.bool (decide (q' ≤ q) && decide (d' ≤ d))) ∧ Below w.heap.size w w' := by
  have hbb : Below w.heap.size w ((w.alloc (.cells #[.int .u64 q, .int .i64 d, .int .u64 p, .slice so 0 sc] 64)).alloc (.cells #[.int .u64 q', .int .i64 d', .int .u64 p', .slice so' 0 sc'] 64)) := ((Below.refl _ _).alloc (Nat.le_refl _) _).alloc (by simp) _
  have HB : Hid (Below w.heap.size w ((w.alloc (.cells #[.int .u64 q, .int .i64 d, .int .u64 p, .slice so 0 sc] 64)).alloc (.cells #[.int .u64 q', .int .i64 d', .int .u64 p', .slice so' 0 sc'] 64))) := hbb
  clear hbb
  by_cases h : q' ≤ q
  · go_enter Yba.func32, Yba.ntmps32
    go_wp2_with fail
    refine (covers_none q d p q' d' p' so so' sc sc' _ h).mono ?_
    rintro e w1 ⟨rfl, hb⟩
    go_wp2
    go_ret
    exact ⟨ret_bool (by simp [h]), HB.out.trans (hb.mono (by simp; omega))⟩
  · go_enter Yba.func32, Yba.ntmps32
    go_wp2_with fail
    go_ret
    exact ⟨ret_bool (by simp; omega), HB.out⟩

end Go.Proofs.Ybulkbjfc.TC
