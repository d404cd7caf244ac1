import Derived.Test.YbulkbjfcWb3
namespace Go.Proofs.Ybulkbjfc
open Go.RowKit

set_option maxHeartbeats 400000 in
theorem bbuild_empty (a : Addr) (c : Nat) (w : World) : Calls Yba.prog 13 #[.slice (some a) 0 c] w fun e w' => e = .returned (.slice (some ⟨w.heap.size, 0, none⟩) 0 0) ∧ Below w.heap.size w w' := by
  have q := q40
  have hmk : ∀ w, (Instr.makeSlice 44 (.int .i64 0) (.int .i64 0)).run Yba.prog w = .ok (.slice (some ⟨w.heap.size, 0, none⟩) 0 0) (w.alloc (.cells (zeroSteps 0) 51)) := make_steps 0 (by omega)
  go_enter Yba.func13, Yba.ntmps13
  go_wp2
  refine wp_loop_rounds 1 ?_
  rw [rounds_succ]
  go_wp2
  go_ret
  exact ⟨rfl, (Below.refl _ _).alloc (Nat.le_refl _) _⟩

theorem not_dec {p : Prop} [Decidable p] (h : (!decide p) = true) : decide p = false := by simpa using h
theorem not_dec' {p : Prop} [Decidable p] (h : (!decide p) = false) : decide p = true := by simpa using h

/-- where all before place k fit, the step before place k (k > 0) has a number above 0 -/
theorem ff_before {F : Nat → Bool} {n : Nat} (h : ff F n = -1) : ∀ k, k < n → F k = true := by
  induction n with
  | zero => intro k hk; omega
  | succ n ih =>
    have h1 : ff F n = -1 := by
      by_cases e : ff F n = -1
      · exact e
      · simp [ff, e] at h
    have h2 : F n = true := by
      simp only [ff, h1, if_true] at h
      by_cases e : F n = true
      · exact e
      · simp [e] at h
    intro k hk
    by_cases e : k = n
    · rw [e]; exact h2
    · exact ih h1 k (by omega)
theorem prev_pos {dq dd : Int} {Q T : Nat → Int} {k : Nat} (hQ : ∀ i, i < k + 1 → 0 ≤ Q i) (h : ff (fitAt dq dd Q T) (k + 1) = -1) : Q k ≠ 0 := by
  have h1 := ff_before h k (by omega)
  simp only [fitAt, fitsB, Bool.and_eq_true, decide_eq_true_eq] at h1
  have h2 : 0 ≤ prevI Q k := by
    unfold prevI
    split
    · omega
    · exact hQ _ (by omega)
  omega
theorem fitAt_zero (dq dd : Int) (Q T : Nat → Int) : fitAt dq dd Q T 0 = (decide (0 < Q 0) && decide (Q 0 < dq) && decide (T 0 < dd)) := by
  simp [fitAt, fitsB, prevI]
theorem fitAt_succ (dq dd : Int) (Q T : Nat → Int) (k : Nat) (h : Q k ≠ 0) : fitAt dq dd Q T (k + 1) = (decide (Q k < Q (k + 1)) && decide (Q (k + 1) < dq) && decide (T (k + 1) < T k)) := by
  simp [fitAt, fitsB, prevI_succ, h]

set_option maxHeartbeats 400000 in
theorem bmodel_big (dq dd : Int) (a : Option Addr) (n c : Nat) (w : World) (hn : 1024 < n) :
    Calls Yba.prog 5 #[.int .u64 dq, .int .i64 dd, .slice a n c] w fun e w' => e = .returned (.bool true) ∧ Below w.heap.size w w' := by
  have h : (1024 : Int) < (n : Int) := by omega
  go_enter Yba.func5, Yba.ntmps5
  go_wp2
  go_ret
  exact ⟨rfl, Below.refl _ _⟩

set_option maxHeartbeats 400000 in
theorem bmodel_nil (dq dd : Int) (w : World) :
    Calls Yba.prog 5 #[.int .u64 dq, .int .i64 dd, .slice none 0 0] w fun e w' => e = .returned (.bool true) ∧ Below w.heap.size w w' := by
  go_enter Yba.func5, Yba.ntmps5
  go_wp2_with (go_at_call 13; refine (bbuild_nil _).mono ?_; rintro e w' ⟨rfl, rfl⟩)
  refine wp_loop_rounds 1 ?_
  rw [rounds_succ]
  go_wp2_with fail
  refine (firstMisfit_zero _ _ _ _ _ _ _).mono ?_
  rintro e w1 ⟨rfl, hb1⟩
  go_wp2
  go_ret
  exact ⟨rfl, ((Below.refl _ _).alloc (Nat.le_refl _) _).trans (hb1.mono (by simp))⟩

set_option maxHeartbeats 400000 in
theorem bmodel_empty (dq dd : Int) (a : Addr) (c : Nat) (w : World) :
    Calls Yba.prog 5 #[.int .u64 dq, .int .i64 dd, .slice (some a) 0 c] w fun e w' => e = .returned (.bool true) ∧ Below w.heap.size w w' := by
  go_enter Yba.func5, Yba.ntmps5
  go_wp2_with fail
  refine (bbuild_empty _ _ _).mono ?_
  rintro e w1 ⟨rfl, hb1⟩
  obtain ⟨hc, hf⟩ := bcell hb1
  go_wp2
  refine wp_loop_rounds 1 ?_
  rw [rounds_succ]
  go_wp2_with fail
  refine (firstMisfit_zero _ _ _ _ _ _ _).mono ?_
  rintro e w2 ⟨rfl, hb2⟩
  go_wp2
  go_ret
  have hs := hb1.size
  simp at hs
  exact ⟨rfl, (((Below.refl _ _).alloc (Nat.le_refl _) _).trans (hb1.mono (by simp))).trans (hb2.mono (by omega))⟩

set_option maxHeartbeats 400000 in
theorem bmodel_some (dq dd : Int) (b off n c : Nat) (Q T : Nat → Int) (w : World) (hn : n ≤ 1024) (hb : b < w.heap.size)
    (h0 : ∀ i, i < n → w.cell? ⟨b, off + i * 2, none⟩ = some (.int .u64 (Q i))) (h1 : ∀ i, i < n → w.cell? ⟨b, off + i * 2 + 1, none⟩ = some (.int .i64 (T i))) (hQ : ∀ i, i < n → 0 ≤ Q i) :
    Calls Yba.prog 5 #[.int .u64 dq, .int .i64 dd, .slice (some ⟨b, off, none⟩) n c] w fun e w' => e = .returned (.bool true) ∧ Below w.heap.size w w' := by
  have h : ¬ (1024 : Int) < (n : Int) := by omega
  go_enter Yba.func5, Yba.ntmps5
  go_wp2_with fail
  refine (bbuild_any b off n c Q T _ hn (by simp; omega) ?_ ?_).mono ?_
  · intro i hi; rw [World.cell?_alloc_lt _ _ _ hb]; exact h0 i hi
  · intro i hi; rw [World.cell?_alloc_lt _ _ _ hb]; exact h1 i hi
  rintro e w1 ⟨rfl, hb1, z1, g0, g1, g2⟩
  obtain ⟨hc, hf⟩ := bcell hb1
  have z0 : w.heap.size < w1.heap.size := by simp at z1; omega
  have d0 : w1.cell? ⟨w.heap.size, 0, none⟩ = some (.string strA) := by rw [hc _ _ (by simp)]; simp; rfl
  have d1 : w1.cell? ⟨w.heap.size, 1, none⟩ = some (.int .u64 dq) := by rw [hc _ _ (by simp)]; simp
  have d2 : w1.cell? ⟨w.heap.size, 2, none⟩ = some (.int .i64 dd) := by rw [hc _ _ (by simp)]; simp
  have d3 : w1.cell? ⟨w.heap.size, 3, none⟩ = some (.int .u64 0) := by rw [hc _ _ (by simp)]; simp
  have r0 : ∀ i, i < n → w1.cell? ⟨b, off + i * 2, none⟩ = some (.int .u64 (Q i)) := fun i hi => by rw [hc _ _ (by simp; omega), World.cell?_alloc_lt _ _ _ hb]; exact h0 i hi
  have r1 : ∀ i, i < n → w1.cell? ⟨b, off + i * 2 + 1, none⟩ = some (.int .i64 (T i)) := fun i hi => by rw [hc _ _ (by simp; omega), World.cell?_alloc_lt _ _ _ hb]; exact h1 i hi
  have hbel : Below w.heap.size w w1 := ((Below.refl _ _).alloc (Nat.le_refl _) _).trans (hb1.mono (by simp))
  simp only [World.size_alloc] at z1 g0 g1 g2
  clear hc hf hb1
  have G0 : Hid (∀ i, i < n → w1.cell? ⟨w.heap.size + 1, 0 + i * 3, none⟩ = some (.string strA)) := g0
  have G1 : Hid (∀ i, i < n → w1.cell? ⟨w.heap.size + 1, 0 + i * 3 + 1, none⟩ = some (.int .u64 (Q i))) := g1
  have G2 : Hid (∀ i, i < n → w1.cell? ⟨w.heap.size + 1, 0 + i * 3 + 1 + 1, none⟩ = some (.int .i64 (T i))) := g2
  clear g0 g1 g2
  go_wp2
  go_loop [9, 10] (fun q i => ∃ k : Nat, k ≤ n ∧ i = .int .i64 k ∧ q = .int .i64 (-1) ∧ ff (fitAt dq dd Q T) k = -1) (fun _ i => n - (intOf i).toNat)
  case atStart => exact ⟨0, Nat.zero_le _, rfl, rfl, rfl⟩
  case round =>
    obtain ⟨k, hk, rfl, rfl, hff⟩ := hrel
    have fin : ∀ w2, Below w1.heap.size w1 w2 → Below w.heap.size w w2 := fun w2 h2 => hbel.trans (h2.mono (by omega))
    by_cases hlt : k < n
    · have a0 := r0 k hlt
      have a1 := r1 k hlt
      match k with
      | 0 =>
        have hF := fitAt_zero dq dd Q T
        simp only [Nat.zero_mul, Nat.add_zero] at a0 a1
        have HF : Hid (fitAt dq dd Q T 0 = (decide (0 < Q 0) && decide (Q 0 < dq) && decide (T 0 < dd))) := hF
        clear hF
        go_wp2_with fail
        all_goals first
          | (go_round
             case rel => exact ⟨1, by omega, rfl, rfl, ff_yes hff (by rw [HF.out, not_dec' ‹(!decide (T 0 < dd)) = false›]; simp; omega)⟩
             case measure => simp [intOf]; omega)
          | (have hF : fitAt dq dd Q T 0 = false := by rw [HF.out]; first | (rw [not_dec ‹(!decide (T 0 < dd)) = true›]; simp) | (simp; omega)
             refine (firstMisfit_any strA dq dd 0 (w.heap.size + 1) 0 n n (fun _ => strA) Q T w1 hn z1 G0.out G1.out G2.out).mono ?_
             rintro e w2 ⟨rfl, hb2⟩
             rw [ff_no hff hF hlt]
             go_wp2
             go_ret
             exact ⟨rfl, fin _ hb2⟩)
      | j + 1 =>
        have p0 := r0 j (by omega)
        have p1 := r1 j (by omega)
        have hne := prev_pos (fun i hi => hQ i (by omega)) hff
        have HF : Hid (fitAt dq dd Q T (j + 1) = (decide (Q j < Q (j + 1)) && decide (Q (j + 1) < dq) && decide (T (j + 1) < T j))) := fitAt_succ dq dd Q T j hne
        clear hne
        have hji : (j : Int) < (n : Int) := by omega
        have hji1 : (j : Int) + 1 < (n : Int) := by omega
        go_wp2_with fail
        all_goals first
          | (go_round
             case rel => exact ⟨j + 1 + 1, by omega, by go_num, rfl, ff_yes hff (by rw [HF.out, not_dec' ‹(!decide (T (j + 1) < T j)) = false›]; simp; omega)⟩
             case measure => simp [intOf]; omega)
          | (have hF : fitAt dq dd Q T (j + 1) = false := by rw [HF.out]; first | (rw [not_dec ‹(!decide (T (j + 1) < T j)) = true›]; simp) | (simp; omega)
             refine (firstMisfit_any strA dq dd 0 (w.heap.size + 1) 0 n n (fun _ => strA) Q T w1 hn z1 G0.out G1.out G2.out).mono ?_
             rintro e w2 ⟨rfl, hb2⟩
             rw [ff_no hff hF hlt]
             go_wp2
             go_ret
             exact ⟨rfl, fin _ hb2⟩)
    · go_wp2_with fail
      refine (firstMisfit_any strA dq dd 0 (w.heap.size + 1) 0 n n (fun _ => strA) Q T w1 hn z1 G0.out G1.out G2.out).mono ?_
      rintro e w2 ⟨rfl, hb2⟩
      have : k = n := by omega
      subst this
      rw [hff]
      go_wp2
      go_ret
      exact ⟨rfl, fin _ hb2⟩

end Go.Proofs.Ybulkbjfc
