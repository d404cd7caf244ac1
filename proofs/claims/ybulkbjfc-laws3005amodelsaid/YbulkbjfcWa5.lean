import Derived.Test.YbulkbjfcWa4
namespace Go.Proofs.Ybulkbjfc.TA
open Go.RowKit

/-- whether the sender lacks (src, seq), lk being the delivered number of src -/
def lacksB (id : ByteArray) (first earlier : Int) (src : ByteArray) (seq lk : Int) : Bool :=
  if (src.toList == id.toList) = true ∧ 0 < first then decide (earlier < seq) && decide (seq < first) else decide (lk < seq)

theorem two_below (w : World) (o1 o2 : Obj) : Below w.heap.size w ((w.alloc o1).alloc o2) := ((Below.refl _ _).alloc (Nat.le_refl _) _).alloc (by simp) _

set_option maxRecDepth 4000 in
set_option maxHeartbeats 400000 in
theorem lacks_own (id src : ByteArray) (first earlier seq : Int) (eo so : Option Addr) (el ec n sc : Nat) (w : World) (h1 : (src.toList == id.toList) = true) (h2 : 0 < first) :
    Calls Yba.prog 12 #[.agg #[.string id, .int .u64 first, .int .u64 earlier, .slice eo el ec, .slice so n sc], .agg #[.string src, .int .u64 seq]] w
      fun e w' => e = .returned (.bool (decide (earlier < seq) && decide (seq < first))) ∧ Below w.heap.size w w' := by
  by_cases h3 : earlier < seq
  · go_enter Yba.func12, Yba.ntmps12
    go_wp2
    go_ret
    exact ⟨ret_bool (by simp [h3]), two_below _ _ _⟩
  · go_enter Yba.func12, Yba.ntmps12
    go_wp2
    go_ret
    exact ⟨ret_bool (by simp; omega), two_below _ _ _⟩

set_option maxRecDepth 4000 in
set_option maxHeartbeats 1000000 in
theorem lacks_other1 (id src : ByteArray) (first earlier seq lk : Int) (eo so : Option Addr) (el ec n sc : Nat) (w : World)
    (HG : Hid (∀ W, Below w.heap.size w W → Calls Yba.prog 22 #[.agg #[.slice eo el ec, .slice so n sc], .string src] W fun e w' => e = .returned (.int .u64 lk) ∧ Below W.heap.size W w')) (h1 : (src.toList == id.toList) = false) :
    Calls Yba.prog 12 #[.agg #[.string id, .int .u64 first, .int .u64 earlier, .slice eo el ec, .slice so n sc], .agg #[.string src, .int .u64 seq]] w
      fun e w' => e = .returned (.bool (decide (lk < seq))) ∧ Below w.heap.size w w' := by
  go_enter Yba.func12, Yba.ntmps12
  go_wp2
  go_region_with (go_at_call 22; refine (HG.out _ (two_below _ _ _).drew).mono ?_; rintro e w2 ⟨rfl, hb2⟩; have y0 := below_cells hb2 ⟨w.heap.size + 1, 1, none⟩ (.int .u64 seq) (by simp); replace hb2 := (two_below _ _ _).drew.trans (hb2.mono (by simp; omega)))
  all_goals
    have hb2 := ‹Below w.heap.size w _›
    go_wp2
    go_ret
    exact ⟨rfl, hb2⟩

set_option maxRecDepth 4000 in
set_option maxHeartbeats 1000000 in
theorem lacks_other2 (id src : ByteArray) (first earlier seq lk : Int) (eo so : Option Addr) (el ec n sc : Nat) (w : World)
    (HG : Hid (∀ W, Below w.heap.size w W → Calls Yba.prog 22 #[.agg #[.slice eo el ec, .slice so n sc], .string src] W fun e w' => e = .returned (.int .u64 lk) ∧ Below W.heap.size W w')) (h1 : (src.toList == id.toList) = true) (h2 : ¬ 0 < first) :
    Calls Yba.prog 12 #[.agg #[.string id, .int .u64 first, .int .u64 earlier, .slice eo el ec, .slice so n sc], .agg #[.string src, .int .u64 seq]] w
      fun e w' => e = .returned (.bool (decide (lk < seq))) ∧ Below w.heap.size w w' := by
  go_enter Yba.func12, Yba.ntmps12
  go_wp2
  go_region_with (go_at_call 22; refine (HG.out _ (two_below _ _ _).drew).mono ?_; rintro e w2 ⟨rfl, hb2⟩; have y0 := below_cells hb2 ⟨w.heap.size + 1, 1, none⟩ (.int .u64 seq) (by simp); replace hb2 := (two_below _ _ _).drew.trans (hb2.mono (by simp; omega)))
  all_goals
    have hb2 := ‹Below w.heap.size w _›
    go_wp2
    go_ret
    exact ⟨rfl, hb2⟩

theorem lacks_any (id src : ByteArray) (first earlier seq lk : Int) (eo so : Option Addr) (el ec n sc : Nat) (w : World)
    (hget : ∀ W, Below w.heap.size w W → Calls Yba.prog 22 #[.agg #[.slice eo el ec, .slice so n sc], .string src] W fun e w' => e = .returned (.int .u64 lk) ∧ Below W.heap.size W w') :
    Calls Yba.prog 12 #[.agg #[.string id, .int .u64 first, .int .u64 earlier, .slice eo el ec, .slice so n sc], .agg #[.string src, .int .u64 seq]] w
      fun e w' => e = .returned (.bool (lacksB id first earlier src seq lk)) ∧ Below w.heap.size w w' := by
  unfold lacksB
  cases h1 : (src.toList == id.toList) with
  | false =>
    rw [if_neg (by simp)]
    exact lacks_other1 id src first earlier seq lk eo so el ec n sc w hget h1
  | true =>
    by_cases h2 : 0 < first
    · rw [if_pos ⟨rfl, h2⟩]
      exact lacks_own id src first earlier seq eo so el ec n sc w h1 h2
    · rw [if_neg (by simp [h2])]
      exact lacks_other2 id src first earlier seq lk eo so el ec n sc w hget h1 h2

end Go.Proofs.Ybulkbjfc.TA
