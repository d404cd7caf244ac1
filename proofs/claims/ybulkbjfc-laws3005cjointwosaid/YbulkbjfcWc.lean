import Derived.Test.YbulkbjfcWb
import Derived.RegionTactic
import Derived.BigRegion
namespace Go.Proofs.Ybulkbjfc.TC
open Go.RowKit

set_option maxRecDepth 4000 in
set_option maxHeartbeats 400000 in
theorem cmark_any (q d p : Int) (w : World) :
    Calls Yba.prog 18 #[.agg #[.int .u64 q, .int .i64 d, .int .u64 p]] w fun e w' => e = .returned (.agg #[.int .u64 q, .int .i64 d, .int .u64 p]) ∧ Below w.heap.size w w' := by
  go_enter Yba.func18, Yba.ntmps18
  go_wp2
  exact bodyPost_ret (v := .agg #[.int .u64 q, .int .i64 d, .int .u64 p]) (by simp [results, Yba.results18, go_sem]) rfl ⟨rfl, ((Below.refl _ _).alloc (Nat.le_refl _) _).alloc (by simp) _⟩

set_option maxRecDepth 4000 in
set_option maxHeartbeats 400000 in
theorem centry_any (s : ByteArray) (q d p : Int) (w : World) :
    Calls Yba.prog 17 #[.string s, .agg #[.int .u64 q, .int .i64 d, .int .u64 p]] w fun e w' => e = .returned (.agg #[.string s, .int .u64 q, .int .i64 d, .int .u64 p, .slice none 0 0]) ∧ Below w.heap.size w w' := by
  go_enter Yba.func17, Yba.ntmps17
  go_wp2
  exact bodyPost_ret (v := .agg #[.string s, .int .u64 q, .int .i64 d, .int .u64 p, .slice none 0 0]) (by simp [results, Yba.results17, go_sem]) rfl ⟨rfl, ((Below.refl _ _).alloc (Nat.le_refl _) _).alloc (by simp) _⟩

/-- a new node's cells -/
def nodeCells (s : ByteArray) (m0 m1 m2 m3 m4 m5 m6 m7 m8 m9 m10 : Option Nat) : Array Value := #[.string s, .int .i64 0, .int .i64 0, .bool false, .bool false, .bool false, .nilFunc, .int .i64 0, .int .u64 0, .int .u64 0, .int .u64 0, .int .i64 0, .int .u64 0, .slice none 0 0, .int .u64 0, .int .u64 0, .bool false, .map m0, .map m1, .map m2, .int .u64 0, .int .i64 0, .int .u64 0, .slice none 0 0, .map m3, .map m4, .int .i64 0, .slice none 0 0, .map m5, .map m6, .slice none 0 0, .int .i64 0, .int .u64 0, .map m7, .map m8, .slice none 0 0, .int .i64 0, .map m9, .slice none 0 0, .map m10, .int .u64 0, .int .u64 0, .int .u64 0]
theorem build88 (s : ByteArray) (m0 m1 m2 m3 m4 m5 m6 m7 m8 m9 m10 : Option Nat) (w : World) :
    (Instr.build 88 #[(0, .string s), (14, .map m0), (15, .map m1), (16, .map m2), (18, .map m3), (19, .map m4), (22, .map m5), (23, .map m6), (26, .map m7), (27, .map m8), (29, .map m9), (30, .agg #[.slice none 0 0, .map m10])]).run Yba.prog w = .ok (.agg (nodeCells s m0 m1 m2 m3 m4 m5 m6 m7 m8 m9 m10)) w := by kernel_rfl

theorem wpList_build_run {P : Program} {w : World} {ops : Array Oper} {rest : List Oper} {o : Oper} {a : Act} {Q : Exit → Act → World → Prop} (hgd : o.guard = none) (t : TypeId) (parts : Array (Nat × Operand)) (ho : o.op = .build t parts)
    (vs : Array (Nat × Value)) (cells : Array Value) (hv : (parts.map fun (i, x) => (i, a.eval x)) = vs) (hr : (Instr.build t vs).run P w = .ok (.agg cells) w) (h : wpList P ops Q rest (a.put o.dst (.agg cells)) w) : wpList P ops Q (o :: rest) a w := by
  refine wpList_plain hgd fun K hK => ?_
  subst hv
  unfold Oper.wp execOp
  simp only [ho, Sem.run_bind, hr, Result.andThen_ok]
  exact hK _ _ h

theorem heap_keep {w : World} {k : Nat} {x : Obj} (h : w.heap[k]? = some x) (o : Obj) : (w.alloc o).heap[k]? = some x := by
  have hk : k < w.heap.size := (Array.getElem?_eq_some_iff.1 h).1
  rw [Below.heap_alloc _ _ _ hk]; exact h
theorem node_cell {W : World} {n : Nat} (hn : W.heap.size = n) (cs : Array Value) {v : Value} {t : TypeId} {i : Nat} (hv : cs[i]? = some v) : (W.alloc (.cells cs t)).cell? ⟨n, i, none⟩ = some v := by
  subst hn
  rw [World.cell?_alloc_new]; exact hv

set_option maxRecDepth 4000 in
set_option maxHeartbeats 400000 in
theorem blank_any (s : ByteArray) (w : World) :
    Calls Yba.prog 15 #[.string s] w fun e w' => ∃ nb mb, e = .returned (.pointer (some ⟨nb, 0, none⟩)) ∧ w'.cell? ⟨nb, 17, none⟩ = some (.map (some mb)) ∧ w'.heap[mb]? = some (.map #[] 0) ∧ w.heap.size ≤ mb ∧ mb < nb ∧ Below w.heap.size w w' := by
  have hmm := @run_makeMap Yba.prog
  go_enter Yba.func15, Yba.ntmps15
  go_wp2_with (refine wpList_build_run rfl 88 _ rfl _ _ ?hv (build88 s (some w.heap.size) (some (w.heap.size + 1)) (some (w.heap.size + 2)) (some (w.heap.size + 3)) (some (w.heap.size + 4)) (some (w.heap.size + 5)) (some (w.heap.size + 6)) (some (w.heap.size + 7)) (some (w.heap.size + 8)) (some (w.heap.size + 9)) (some (w.heap.size + 10)) _) ?_)
  go_ret
  exact ⟨w.heap.size + 11, w.heap.size, rfl, node_cell (by simp) _ rfl, heap_keep (heap_keep (heap_keep (heap_keep (heap_keep (heap_keep (heap_keep (heap_keep (heap_keep (heap_keep (heap_keep (heap_alloc_new w _) _) _) _) _) _) _) _) _) _) _) _, Nat.le_refl _, by omega, ((((((((((((Below.refl _ _).alloc (Nat.le_refl _) _).alloc (by simp) _).alloc (by simp; omega) _).alloc (by simp; omega) _).alloc (by simp; omega) _).alloc (by simp; omega) _).alloc (by simp; omega) _).alloc (by simp; omega) _).alloc (by simp; omega) _).alloc (by simp; omega) _).alloc (by simp; omega) _).alloc (by simp; omega) _⟩

end Go.Proofs.Ybulkbjfc.TC
