import Derived.Test.YbulkbjfcWb2
import Derived.RegionTactic
import Derived.BigRegion
import Derived.Lib.SliceRun
namespace Go.Proofs.Ybulkbjfc
open Go.RowKit

set_option maxHeartbeats 400000 in
theorem firstMisfit_zero (s0 : ByteArray) (dq dd dp : Int) (a : Option Addr) (c : Nat) (w : World) :
    Calls Yba.prog 14 #[.agg #[.string s0, .int .u64 dq, .int .i64 dd, .int .u64 dp], .slice a 0 c] w
      fun e w' => e = .returned (.int .i64 (-1)) ∧ Below w.heap.size w w' := by
  go_enter Yba.func14, Yba.ntmps14
  go_wp2
  refine wp_loop_rounds 1 ?_
  rw [rounds_succ]
  go_wp2
  go_ret
  exact ⟨rfl, ((Below.refl _ _).alloc (Nat.le_refl _) _).alloc (by simp) _⟩

theorem Yba.info51 : (Yba.prog.info? 51).map (fun i => (i.zero, i.size, i.bytes)) = some (some (.agg #[.string ⟨#[]⟩, .int .u64 0, .int .i64 0]), 3, 32) := by kernel_rfl

/-- the cells of a new row of n zero steps -/
def zeroSteps (n : Nat) : Array Value := madeCells #[.string ⟨#[]⟩, .int .u64 0, .int .i64 0] (n * 3)

theorem make_steps (n : Nat) (hn : n ≤ 1024) (w : World) :
    (Instr.makeSlice 44 (.int .i64 (n : Int)) (.int .i64 (n : Int))).run Yba.prog w = .ok (.slice (some ⟨w.heap.size, 0, none⟩) n n) (w.alloc (.cells (zeroSteps n) 51)) := by
  obtain ⟨i, hi, hzz⟩ := Option.map_eq_some_iff.1 Yba.info51
  simp only [Prod.mk.injEq] at hzz
  obtain ⟨hz, hs, hb⟩ := hzz
  have hr := run_make (P := Yba.prog) w 44 51 i _ Yba.underlying44 hi hz .i64 .i64 n n (by omega) (Int.le_refl _) (by rw [hb]; omega) (by omega)
  simp only [Int.toNat_natCast, hs] at hr
  exact hr

theorem zeroSteps_size (n : Nat) : (zeroSteps n).size = n * 3 := by simp [zeroSteps, size_madeCells]

theorem q40 (w : World) (a : Option Addr) (n c n' c' : Nat) : (binOp .eql 40 (.slice a n c) (.slice none n' c')).run Yba.prog w = .ok (.bool a.isNone) w := Lib.run_eql_slice_nil w _ _ a n c n' c' Yba.underlying40

set_option maxHeartbeats 400000 in
theorem bbuild_nil (w : World) : Calls Yba.prog 13 #[.slice none 0 0] w fun e w' => e = .returned (.slice none 0 0) ∧ w' = w := by
  have q := q40
  go_enter Yba.func13, Yba.ntmps13
  go_wp2
  go_ret
  exact ⟨rfl, rfl⟩

def strA : ByteArray := ⟨#[97]⟩

/-- three stores side by side: what lies there, and that nothing else has turned -/
theorem three_cells {wr : World} {N m : Nat} {v0 v1 v2 : Value} (h0 : ∃ v, wr.cell? ⟨N, m, none⟩ = some v) (h1 : ∃ v, wr.cell? ⟨N, m + 1, none⟩ = some v) (h2 : ∃ v, wr.cell? ⟨N, m + 2, none⟩ = some v) :
    (∀ o, o < m ∨ m + 2 < o → (((wr.setCell ⟨N, m, none⟩ v0).setCell ⟨N, m + 1, none⟩ v1).setCell ⟨N, m + 2, none⟩ v2).cell? ⟨N, o, none⟩ = wr.cell? ⟨N, o, none⟩) ∧
    (((wr.setCell ⟨N, m, none⟩ v0).setCell ⟨N, m + 1, none⟩ v1).setCell ⟨N, m + 2, none⟩ v2).cell? ⟨N, m, none⟩ = some v0 ∧
    (((wr.setCell ⟨N, m, none⟩ v0).setCell ⟨N, m + 1, none⟩ v1).setCell ⟨N, m + 2, none⟩ v2).cell? ⟨N, m + 1, none⟩ = some v1 ∧
    (((wr.setCell ⟨N, m, none⟩ v0).setCell ⟨N, m + 1, none⟩ v1).setCell ⟨N, m + 2, none⟩ v2).cell? ⟨N, m + 2, none⟩ = some v2 := by
  obtain ⟨u0, h0⟩ := h0
  obtain ⟨u1, h1⟩ := h1
  obtain ⟨u2, h2⟩ := h2
  refine ⟨fun o ho => ?_, ?_, ?_, ?_⟩
  · rw [World.cell?_setCell_other, World.cell?_setCell_other, World.cell?_setCell_other] <;> (simp; try omega)
  · rw [World.cell?_setCell_other, World.cell?_setCell_other, World.cell?_setCell_same _ _ _ h0] <;> simp
  · rw [World.cell?_setCell_other, World.cell?_setCell_same (u := u1)]
    · rw [World.cell?_setCell_other, h1]; simp
    · simp
  · rw [World.cell?_setCell_same (u := u2)]
    rw [World.cell?_setCell_other, World.cell?_setCell_other, h2] <;> simp

set_option maxHeartbeats 400000 in
theorem bbuild_any (b off n c : Nat) (Q T : Nat → Int) (w : World) (hn : n ≤ 1024) (hb : b < w.heap.size)
    (h0 : ∀ i, i < n → w.cell? ⟨b, off + i * 2, none⟩ = some (.int .u64 (Q i))) (h1 : ∀ i, i < n → w.cell? ⟨b, off + i * 2 + 1, none⟩ = some (.int .i64 (T i))) :
    Calls Yba.prog 13 #[.slice (some ⟨b, off, none⟩) n c] w fun e w' => e = .returned (.slice (some ⟨w.heap.size, 0, none⟩) n n) ∧ Below w.heap.size w w' ∧ w.heap.size < w'.heap.size ∧
      (∀ i, i < n → w'.cell? ⟨w.heap.size, 0 + i * 3, none⟩ = some (.string strA)) ∧ (∀ i, i < n → w'.cell? ⟨w.heap.size, 0 + i * 3 + 1, none⟩ = some (.int .u64 (Q i))) ∧ (∀ i, i < n → w'.cell? ⟨w.heap.size, 0 + i * 3 + 1 + 1, none⟩ = some (.int .i64 (T i))) := by
  have hmk := make_steps n hn
  have q := q40
  go_enter Yba.func13, Yba.ntmps13
  go_wp2
  go_loopw [4] (fun i wr => ∃ k : Nat, k ≤ n ∧ i = .int .i64 k ∧ Below w.heap.size w wr ∧ w.heap.size < wr.heap.size ∧ (∀ o, o < n * 3 → ∃ v, wr.cell? ⟨w.heap.size, o, none⟩ = some v) ∧ (∀ o, o < n * 3 → wr.frozen? ⟨w.heap.size, o, none⟩ = false) ∧
      (∀ i, i < k → wr.cell? ⟨w.heap.size, i * 3, none⟩ = some (.string strA)) ∧ (∀ i, i < k → wr.cell? ⟨w.heap.size, i * 3 + 1, none⟩ = some (.int .u64 (Q i))) ∧ (∀ i, i < k → wr.cell? ⟨w.heap.size, i * 3 + 1 + 1, none⟩ = some (.int .i64 (T i))))
    (fun i _ => n - (intOf i).toNat)
  case atStart =>
    refine ⟨0, Nat.zero_le _, rfl, (Below.refl _ _).alloc (Nat.le_refl _) _, by simp, ?_, ?_, by omega, by omega, by omega⟩
    · intro o ho
      have hs := zeroSteps_size n
      simp [ho, hs]
    · intro o ho
      simp
  case round =>
    obtain ⟨k, hk, rfl, hbel, hsz, hex, hfr, g0, g1, g2⟩ := hrel
    by_cases hlt : k < n
    · have c0 : wr.cell? ⟨b, off + k * 2, none⟩ = some (.int .u64 (Q k)) := (hbel.cell (p := ⟨b, _, none⟩) hb).trans (h0 k hlt)
      have c1 : wr.cell? ⟨b, off + k * 2 + 1, none⟩ = some (.int .i64 (T k)) := (hbel.cell (p := ⟨b, _, none⟩) hb).trans (h1 k hlt)
      obtain ⟨v0, e0⟩ := hex (k * 3) (by omega)
      obtain ⟨v1, e1⟩ := hex (k * 3 + 1) (by omega)
      obtain ⟨v2, e2⟩ := hex (k * 3 + 1 + 1) (by omega)
      have f0 := hfr (k * 3) (by omega)
      have f1 := hfr (k * 3 + 1) (by omega)
      have f2 := hfr (k * 3 + 1 + 1) (by omega)
      have hli : (k : Int) < (n : Int) := by omega
      go_wp2
      go_region
      clear e0 e1 e2 f0 f1 f2 c0 c1
      go_wp2
      go_roundw
      case rel =>
        have R := three_cells (wr := wr) (N := w.heap.size) (m := k * 3) (v0 := .string strA) (v1 := .int .u64 (Q k)) (v2 := .int .i64 (T k)) (hex _ (by omega)) (hex _ (by omega)) (hex _ (by omega))
        obtain ⟨r0, r1, r2, r3⟩ := R
        refine ⟨k + 1, by omega, by go_num, ((((hbel.setCell (Nat.le_refl _) _).setCell (Nat.le_refl _) _).setCell (Nat.le_refl _) _).drew), by simpa using hsz, ?_, ?_, ?_, ?_, ?_⟩
        · intro o ho
          rw [World.cell?_drew]
          by_cases q1 : o = k * 3
          · subst q1; exact ⟨_, r1⟩
          by_cases q2 : o = k * 3 + 1
          · subst q2; exact ⟨_, r2⟩
          by_cases q3 : o = k * 3 + 2
          · subst q3; exact ⟨_, r3⟩
          obtain ⟨v, hv⟩ := hex o ho
          exact ⟨v, (r0 o (by omega)).trans hv⟩
        · intro o ho
          simpa using hfr o ho
        · intro i hi
          rw [World.cell?_drew]
          by_cases q1 : i = k
          · subst q1; exact r1
          exact (r0 _ (by omega)).trans (g0 i (by omega))
        · intro i hi
          rw [World.cell?_drew]
          by_cases q1 : i = k
          · subst q1; exact r2
          exact (r0 _ (by omega)).trans (g1 i (by omega))
        · intro i hi
          rw [World.cell?_drew]
          by_cases q1 : i = k
          · subst q1; exact r3
          exact (r0 _ (by omega)).trans (g2 i (by omega))
      case measure => simp [intOf]; omega
    · go_wp2
      go_ret
      have : k = n := by omega
      subst this
      exact ⟨rfl, hbel, hsz, by simpa using g0, by simpa using g1, by simpa using g2⟩

end Go.Proofs.Ybulkbjfc
