import Derived.Test.YbulkbjfcWd
import Derived.Test.YbulkbjfcWc6
namespace Go.Proofs.Ybulkbjfc.TC
open Go.RowKit

theorem below4 (w : World) (o1 o2 o3 o4 : Obj) : Below w.heap.size w ((((w.alloc o1).alloc o2).alloc o3).alloc o4) :=
  ((((Below.refl _ _).alloc (Nat.le_refl _) _).alloc (by simp) _).alloc (by simp; omega) _).alloc (by simp; omega) _
theorem and_true' {p q : Prop} [Decidable p] [Decidable q] (hp : p) (hq : q) : (decide p && decide q) = true := by simp [hp, hq]

set_option maxRecDepth 4000 in
set_option maxHeartbeats 400000 in
theorem joined_f (src : ByteArray) (fq fd fp kq kd kp : Int) (fo ko : Option Addr) (fc kc : Nat) (w : World) (h0 : ¬ fq = 0) (hq : kq ≤ fq) (hd : kd ≤ fd) :
    Calls Yba.prog 24 #[.string src, .agg #[.int .u64 fq, .int .i64 fd, .int .u64 fp, .slice fo 0 fc], .agg #[.int .u64 kq, .int .i64 kd, .int .u64 kp, .slice ko 0 kc]] w
      fun e w' => e = .returned (.agg #[.int .u64 fq, .int .i64 fd, .int .u64 (max fp kp), .slice fo 0 fc]) ∧ Below w.heap.size w w' := by
  go_enter Yba.func24, Yba.ntmps24
  go_wp2_with fail
  all_goals
    refine (stands_none fq fd fp kq kd kp fo ko fc kc _).mono ?_
    rintro e w1 ⟨rfl, hb⟩
    rw [and_true' hq hd]
    have HB : Hid (Below w.heap.size w w1) := (below4 w _ _ _ _).trans (hb.mono (by simp; omega))
    have z3 : w.heap.size + 1 + 1 + 1 < w1.heap.size := by have := hb.size; simp at this; omega
    have z2 : w.heap.size + 1 + 1 < w1.heap.size := by omega
    have z0 : w.heap.size < w1.heap.size := by omega
    obtain ⟨hc, hf⟩ := bcell hb
    clear hb
    go_wp2
    first
      | (refine bodyPost_ret (v := .agg #[.int .u64 fq, .int .i64 fd, .int .u64 fp, .slice fo 0 fc]) (by simp [results, Yba.results24]; go_simp) rfl ⟨?_, ?_⟩
         · rw [Int.max_eq_left (by omega)]
         · exact ((((HB.out.setCell (by simp; omega) _).setCell (by simp; omega) _).setCell (by simp; omega) _).setCell (by simp; omega) _).setCell (by simp; omega) _)
      | (refine bodyPost_ret (v := .agg #[.int .u64 fq, .int .i64 fd, .int .u64 kp, .slice fo 0 fc]) (by simp [results, Yba.results24]; go_simp) rfl ⟨?_, ?_⟩
         · rw [Int.max_eq_right (by omega)]
         · exact ((((HB.out.setCell (by simp; omega) _).setCell (by simp; omega) _).setCell (by simp; omega) _).setCell (by simp; omega) _).setCell (by simp; omega) _)

theorem and_false' {p q : Prop} [Decidable p] [Decidable q] (h : ¬ (p ∧ q)) : (decide p && decide q) = false := by
  rw [← Bool.decide_and]; simpa using h

set_option maxRecDepth 4000 in
set_option maxHeartbeats 800000 in
theorem joined_k (src : ByteArray) (fq fd fp kq kd kp : Int) (fo ko : Option Addr) (fc kc : Nat) (w : World) (h0 : ¬ fq = 0) (hn : ¬ (kq ≤ fq ∧ kd ≤ fd)) (hq : fq ≤ kq) (hd : fd ≤ kd) :
    Calls Yba.prog 24 #[.string src, .agg #[.int .u64 fq, .int .i64 fd, .int .u64 fp, .slice fo 0 fc], .agg #[.int .u64 kq, .int .i64 kd, .int .u64 kp, .slice ko 0 kc]] w
      fun e w' => e = .returned (.agg #[.int .u64 kq, .int .i64 kd, .int .u64 (max fp kp), .slice ko 0 kc]) ∧ Below w.heap.size w w' := by
  have HN : Hid (¬ (kq ≤ fq ∧ kd ≤ fd)) := hn
  have h3 : (fq < kq ∧ fd < kd) ∨ (fq = kq ∧ fd < kd) ∨ (fq < kq ∧ fd = kd) := by omega
  clear hn
  rcases h3 with ⟨g1, g2⟩ | ⟨rfl, g2⟩ | ⟨g1, rfl⟩
  all_goals
    go_enter Yba.func24, Yba.ntmps24
    go_wp2_with fail
  all_goals
    refine (stands_none _ _ fp _ _ kp fo ko fc kc _).mono ?_
    rintro e w1 ⟨rfl, hb⟩
    rw [and_false' HN.out]
    have HB : Hid (Below w.heap.size w w1) := (below4 w _ _ _ _).trans (hb.mono (by simp; omega))
    have z3 : w.heap.size + 1 + 1 + 1 < w1.heap.size := by have := hb.size; simp at this; omega
    have z2 : w.heap.size + 1 + 1 < w1.heap.size := by omega
    have z1 : w.heap.size + 1 < w1.heap.size := by omega
    have z0 : w.heap.size < w1.heap.size := by omega
    obtain ⟨hc, hf⟩ := bcell hb
    clear hb
    go_wp2_with fail
    refine (stands_none _ _ kp _ _ fp ko fo kc fc _).mono ?_
    rintro e w2 ⟨rfl, hb⟩
    rw [and_true' (by omega) (by omega)]
    have HB2 : Hid (Below w.heap.size w w2) := HB.out.trans (hb.mono (by omega))
    have y3 : w.heap.size + 1 + 1 + 1 < w2.heap.size := by have := hb.size; omega
    have y2 : w.heap.size + 1 + 1 < w2.heap.size := by omega
    have y1 : w.heap.size + 1 < w2.heap.size := by omega
    have y0 : w.heap.size < w2.heap.size := by omega
    obtain ⟨hc', hf'⟩ := bcell hb
    clear hb
    go_wp2
    first
      | (refine bodyPost_ret (v := .agg #[.int .u64 (by first | exact kq | exact fq), .int .i64 (by first | exact kd | exact fd), .int .u64 fp, .slice ko 0 kc]) (by simp [results, Yba.results24]; go_simp) rfl ⟨?_, ?_⟩
         · rw [Int.max_eq_left (by omega)]
         · exact ((((HB2.out.setCell (by simp; omega) _).setCell (by simp; omega) _).setCell (by simp; omega) _).setCell (by simp; omega) _).setCell (by simp; omega) _)
      | (refine bodyPost_ret (v := .agg #[.int .u64 (by first | exact kq | exact fq), .int .i64 (by first | exact kd | exact fd), .int .u64 kp, .slice ko 0 kc]) (by simp [results, Yba.results24]; go_simp) rfl ⟨?_, ?_⟩
         · rw [Int.max_eq_right (by omega)]
         · exact ((((HB2.out.setCell (by simp; omega) _).setCell (by simp; omega) _).setCell (by simp; omega) _).setCell (by simp; omega) _).setCell (by simp; omega) _)

end Go.Proofs.Ybulkbjfc.TC
